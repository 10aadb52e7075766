import JvmDerived
import JvmDerived.Pilot.@@N@@Statement
import JvmDerived.Pilot.@@N@@Code
set_option linter.unusedVariables false
set_option linter.unusedSimpArgs false
namespace Jvm.OwnKit
open Sem ClassFile Op Lib Jvm.Stand Jvm.Free Jvm.LawKit Jvm.RoadKit
/-! A small program logic over the library's laws of one family: Wp says that from a frame on the method comes back with Q. -/
def Cx (p : Program) (s : State) (m : MethodId) (meth : Method) (c : Code) (Z : State) (my : MethodName) (B : ByteArray) (ml : Nat) (ret : Option FieldType) : Prop :=
  p.tables.exec = Jvm.exec ∧ c.code = B ∧ c.maxLocals = ml ∧ Z.Warmed39 s.vm ∧ s.vm.findClass my.cls = some m.cls ∧ meth.name = my.name ∧ meth.sig.returnType = ret ∧ meth.locks = false
def Wp (l : Launch) (Z : State) (R : Room) (my : MethodName) (B : ByteArray) (ml : Nat) (ret : Option FieldType) (n0 : Nat) (Q : Option Value → Heap → Prop) (h : Heap) (cells slots pc : Nat) (L : Array Slot) (S : List Value) : Prop :=
  ∀ (p : Program) (e : Env) (s : State) (m : MethodId) (args : Array Value) (below : List Frame) (meth : Method) (c : Code) (T : State) (locs : List Loc),
    Cx p s m meth c Z my B ml ret → Stand p l e R s m args below meth c T locs cells slots → T.heap = h → Fr n0 locs →
    ∃ (s₂ : State) (o : Outcome), Steps p.tables e below (T.setTop (mkF m pc L S)) s₂ ∧ s₂.status = .running ∧ Ended s₂ below o ∧ ∃ v L', o = .returned v ∧ (Q v s₂.heap ∧ Fr n0 L') ∧ FrameEnd s o s₂ L' R.cells R.slots
/-- the contract of a method at given arguments and heap -/
def Met (l : Launch) (Z : State) (my : MethodName) (B : ByteArray) (ml : Nat) (ret : Option FieldType) (rm : Room) (as : Array Value) (h0 : Heap) (n0 : Nat) (Q : Option Value → Heap → Prop) : Prop :=
  ∀ ws : List Jvm.Cond, MetFree l my (head1 (Jvm.Cond.code my B ml ret :: ws) rm) (fun a U => a = as ∧ Z.Warmed39 U.vm ∧ U.heap = h0) (fun _ _ _ _ _ => True)
    (fun _ U o U' => ∃ v L, o = .returned v ∧ (Q v U'.heap ∧ Fr n0 L) ∧ FrameEnd U o U' L rm.cells rm.slots)
section Base
variable {l : Launch} {Z : State} {R : Room} {my : MethodName} {B : ByteArray} {ml : Nat} {ret : Option FieldType} {n0 : Nat} {Q : Option Value → Heap → Prop} {h : Heap} {cells slots pc : Nat} {L : Array Slot} {S : List Value} {a0 : Array Value}
theorem Met.of {as : Array Value} {L0 : Array Slot} (hpl : plainName my.cls = true) (ef : ∀ m, entryFrame m as ml = mkF m 0 L0 []) (body : Wp l Z R my B ml ret n0 Q h 0 0 0 L0 []) : Met l Z my B ml ret R as h n0 Q := by
  intro ws
  refine MetFree.of_bodySF (plainFor_of_name hpl) hisR ?_
  intro p e s m args below meth c s₁ Bd hml0 hP hK
  obtain ⟨rfl, hZ, hh⟩ := hP
  have X0 := Stand.of_body Bd
  have e0 : s₁.heap = h := by rw [← hh, Bd.state]; rfl
  obtain ⟨s₂, o, k1, k2⟩ := body p e s m _ below meth c s₁ [] ⟨Bd.exec, Bd.bytes, hml0, hZ, findClass_of_methodNamed Bd.named, (name_of_methodNamed Bd.named Bd.method).1, Bd.returns, Bd.notSynchronized⟩ X0 e0 (Fr.nil n0)
  exact ⟨s₂, o, castTop (ef m) k1, k2⟩
theorem Met.mono {rm : Room} {as : Array Value} {Q' : Option Value → Heap → Prop} (M : Met l Z my B ml ret rm as h n0 Q) (hq : ∀ v h', Q v h' → Q' v h') : Met l Z my B ml ret rm as h n0 Q' := by
  intro ws p e ha hc hk s m args below hf happ hP hK
  obtain ⟨n, o, h1, h2, h3, v, L, rfl, ⟨q1, q2⟩, q3⟩ := M ws p e ha hc hk s m args below hf happ hP hK
  exact ⟨n, _, h1, h2, h3, v, L, rfl, ⟨hq _ _ q1, q2⟩, q3⟩
theorem Wp.mono {Q' : Option Value → Heap → Prop} (W : Wp l Z R my B ml ret n0 Q h cells slots pc L S) (hq : ∀ v h', Q v h' → Q' v h') : Wp l Z R my B ml ret n0 Q' h cells slots pc L S := by
  intro p e s m args below meth c T locs K X eT N
  obtain ⟨s₂, o, k1, k2, k3, v, L', k4, k5, k6⟩ := W p e s m args below meth c T locs K X eT N
  exact ⟨s₂, o, k1, k2, k3, v, L', k4, ⟨hq _ _ k5.1, k5.2⟩, k6⟩
/-- the law's own body may end within any frame -/
theorem Wp.plain {pc' : Nat} {L' : Array Slot} {S' : List Value}
    (st : ∀ {p : Program} {e : Env} {s : State} {m : MethodId} {args : Array Value} {below : List Frame} {meth : Method} {c : Code} {T : State} {locs : List Loc}, Cx p s m meth c Z my B ml ret → Stand p l e R s m args below meth c T locs cells slots → T.heap = h → ∀ target, Steps p.tables e below (T.setTop (mkF m pc' L' S')) target → Steps p.tables e below (T.setTop (mkF m pc L S)) target)
    (r : Wp l Z R my B ml ret n0 Q h cells slots pc' L' S') : Wp l Z R my B ml ret n0 Q h cells slots pc L S := by
  intro p e s m args below meth c T locs K X eT N
  obtain ⟨s₂, o, k1, k2⟩ := r p e s m args below meth c T locs K X eT N
  exact ⟨s₂, o, st K X eT _ k1, k2⟩
theorem Wp.moved {pc' : Nat} {L' : Array Slot} {S' : List Value}
    (st : ∀ {p : Program} {e : Env} {s : State} {m : MethodId} {args : Array Value} {below : List Frame} {meth : Method} {c : Code} {T : State} {locs : List Loc}, Cx p s m meth c Z my B ml ret → Stand p l e R s m args below meth c T locs cells slots → T.heap = h → ∃ T', Stand p l e R s m args below meth c T' locs cells slots ∧ T'.heap = h ∧ ∀ target, Steps p.tables e below (T'.setTop (mkF m pc' L' S')) target → Steps p.tables e below (T.setTop (mkF m pc L S)) target)
    (r : Wp l Z R my B ml ret n0 Q h cells slots pc' L' S') : Wp l Z R my B ml ret n0 Q h cells slots pc L S := by
  intro p e s m args below meth c T locs K X eT N
  obtain ⟨T', X', e', st'⟩ := st K X eT
  obtain ⟨s₂, o, k1, k2⟩ := r p e s m args below meth c T' locs K X' e' N
  exact ⟨s₂, o, st' _ k1, k2⟩
/-! plain steps -/
theorem Wp.iloadN {k : Fin 4} {v : Int32} {pc' : Nat} (hd : decode B pc = .ok (.iload_n k, 1)) (hl : L[k.val]? = some (.val (.int v))) (hp : pc + 1 = pc') (r : Wp l Z R my B ml ret n0 Q h cells slots pc' L (.int v :: S)) : Wp l Z R my B ml ret n0 Q h cells slots pc L S := by
  subst hp; exact Wp.plain (fun K X _ target kt => XS.iloadN X.here K.1 rfl (hb K.2.1 hd) hl kt) r
theorem Wp.iload {k : Nat} {v : Int32} {pc' : Nat} (hd : decode B pc = .ok (.iload k, 2)) (hl : L[k]? = some (.val (.int v))) (hp : pc + 2 = pc') (r : Wp l Z R my B ml ret n0 Q h cells slots pc' L (.int v :: S)) : Wp l Z R my B ml ret n0 Q h cells slots pc L S := by
  subst hp; exact Wp.plain (fun K X _ target kt => XS.iload X.here K.1 rfl (hb K.2.1 hd) hl kt) r
theorem Wp.lloadN {k : Fin 4} {v : Int64} {pc' : Nat} (hd : decode B pc = .ok (.lload_n k, 1)) (hl : L[k.val]? = some (.val (.long v))) (hp : pc + 1 = pc') (r : Wp l Z R my B ml ret n0 Q h cells slots pc' L (.long v :: S)) : Wp l Z R my B ml ret n0 Q h cells slots pc L S := by
  subst hp; exact Wp.plain (fun K X _ target kt => XT.lloadN X.here K.1 rfl (hb K.2.1 hd) hl kt) r
theorem Wp.lload {k : Nat} {v : Int64} {pc' : Nat} (hd : decode B pc = .ok (.lload k, 2)) (hl : L[k]? = some (.val (.long v))) (hp : pc + 2 = pc') (r : Wp l Z R my B ml ret n0 Q h cells slots pc' L (.long v :: S)) : Wp l Z R my B ml ret n0 Q h cells slots pc L S := by
  subst hp; exact Wp.plain (fun K X _ target kt => XT.lload X.here K.1 rfl (hb K.2.1 hd) hl kt) r
theorem Wp.aloadN {k : Fin 4} {v : Value} {pc' : Nat} (hd : decode B pc = .ok (.aload_n k, 1)) (hl : L[k.val]? = some (.val v)) (hv : v.isRef = true) (hp : pc + 1 = pc') (r : Wp l Z R my B ml ret n0 Q h cells slots pc' L (v :: S)) : Wp l Z R my B ml ret n0 Q h cells slots pc L S := by
  subst hp; exact Wp.plain (fun K X _ target kt => XS.aloadN X.here K.1 rfl (hb K.2.1 hd) hl hv kt) r
theorem Wp.aload {k : Nat} {v : Value} {pc' : Nat} (hd : decode B pc = .ok (.aload k, 2)) (hl : L[k]? = some (.val v)) (hv : v.isRef = true) (hp : pc + 2 = pc') (r : Wp l Z R my B ml ret n0 Q h cells slots pc' L (v :: S)) : Wp l Z R my B ml ret n0 Q h cells slots pc L S := by
  subst hp; exact Wp.plain (fun K X _ target kt => XS.aload X.here K.1 rfl (hb K.2.1 hd) hl hv kt) r
theorem Wp.iconst {i : Int} {z : Int32} {pc' : Nat} (hd : decode B pc = .ok (.iconst i, 1)) (hz : Int32.ofInt i = z) (hp : pc + 1 = pc') (r : Wp l Z R my B ml ret n0 Q h cells slots pc' L (.int z :: S)) : Wp l Z R my B ml ret n0 Q h cells slots pc L S := by
  subst hp hz; exact Wp.plain (fun K X _ target kt => XS.iconst X.here K.1 rfl (hb K.2.1 hd) kt) r
theorem Wp.bipush {i : Int} {z : Int32} {pc' : Nat} (hd : decode B pc = .ok (.bipush i, 2)) (hz : (Int8.ofInt i).toInt32 = z) (hp : pc + 2 = pc') (r : Wp l Z R my B ml ret n0 Q h cells slots pc' L (.int z :: S)) : Wp l Z R my B ml ret n0 Q h cells slots pc L S := by
  subst hp hz; exact Wp.plain (fun K X _ target kt => XS.bipush X.here K.1 rfl (hb K.2.1 hd) kt) r
theorem Wp.sipush {i : Int} {z : Int32} {pc' : Nat} (hd : decode B pc = .ok (.sipush i, 3)) (hz : (Int16.ofInt i).toInt32 = z) (hp : pc + 3 = pc') (r : Wp l Z R my B ml ret n0 Q h cells slots pc' L (.int z :: S)) : Wp l Z R my B ml ret n0 Q h cells slots pc L S := by
  subst hp hz; exact Wp.plain (fun K X _ target kt => XS.sipush X.here K.1 rfl (hb K.2.1 hd) kt) r
theorem Wp.lconst {k : Fin 2} {z : Int64} {pc' : Nat} (hd : decode B pc = .ok (.lconst k, 1)) (hz : Int64.ofNat k = z) (hp : pc + 1 = pc') (r : Wp l Z R my B ml ret n0 Q h cells slots pc' L (.long z :: S)) : Wp l Z R my B ml ret n0 Q h cells slots pc L S := by
  subst hp hz; exact Wp.plain (fun K X _ target kt => XT.lconst X.here K.1 rfl (hb K.2.1 hd) kt) r
theorem Wp.aconstNull {pc' : Nat} (hd : decode B pc = .ok (.aconst_null, 1)) (hp : pc + 1 = pc') (r : Wp l Z R my B ml ret n0 Q h cells slots pc' L (.null :: S)) : Wp l Z R my B ml ret n0 Q h cells slots pc L S := by
  subst hp; exact Wp.plain (fun K X _ target kt => XS.aconstNull X.here K.1 rfl (hb K.2.1 hd) kt) r
theorem Wp.ldcInt {index : Nat} {v : Int32} {pc' : Nat} (w : (Jvm.Cond.constant my.cls index v).before a0 Z = true) (hd : decode B pc = .ok (.ldc index, 2)) (hp : pc + 2 = pc') (r : Wp l Z R my B ml ret n0 Q h cells slots pc' L (.int v :: S)) : Wp l Z R my B ml ret n0 Q h cells slots pc L S := by
  subst hp; exact Wp.plain (fun K X _ target kt => X.ldcInt K.1 K.2.2.2.2.1 (mv K.2.2.2.1 w) (g := mkF _ pc L S) rfl (hb K.2.1 hd) target kt) r
theorem Wp.ldc2Long {index : Nat} {v : Int64} {pc' : Nat} (w : (Jvm.Cond.constantLong my.cls index v).before a0 Z = true) (hd : decode B pc = .ok (.ldc2_w index, 3)) (hp : pc + 3 = pc') (r : Wp l Z R my B ml ret n0 Q h cells slots pc' L (.long v :: S)) : Wp l Z R my B ml ret n0 Q h cells slots pc L S := by
  subst hp; exact Wp.plain (fun K X _ target kt => X.ldc2Long K.1 K.2.2.2.2.1 (mv K.2.2.2.1 w) (g := mkF _ pc L S) rfl (hb K.2.1 hd) target kt) r
theorem Wp.istoreN {k : Fin 4} {v : Int32} {L' : Array Slot} {pc' : Nat} (hd : decode B pc = .ok (.istore_n k, 1)) (hl : storeLocals L k.val (.int v) = some L') (hp : pc + 1 = pc') (r : Wp l Z R my B ml ret n0 Q h cells slots pc' L' S) : Wp l Z R my B ml ret n0 Q h cells slots pc L (.int v :: S) := by
  subst hp; exact Wp.plain (fun K X _ target kt => XS.istoreN X.here K.1 rfl (hb K.2.1 hd) rfl hl kt) r
theorem Wp.istore {k : Nat} {v : Int32} {L' : Array Slot} {pc' : Nat} (hd : decode B pc = .ok (.istore k, 2)) (hl : storeLocals L k (.int v) = some L') (hp : pc + 2 = pc') (r : Wp l Z R my B ml ret n0 Q h cells slots pc' L' S) : Wp l Z R my B ml ret n0 Q h cells slots pc L (.int v :: S) := by
  subst hp; exact Wp.plain (fun K X _ target kt => XS.istore X.here K.1 rfl (hb K.2.1 hd) rfl hl kt) r
theorem Wp.lstoreN {k : Fin 4} {v : Int64} {L' : Array Slot} {pc' : Nat} (hd : decode B pc = .ok (.lstore_n k, 1)) (hl : storeLocals L k.val (.long v) = some L') (hp : pc + 1 = pc') (r : Wp l Z R my B ml ret n0 Q h cells slots pc' L' S) : Wp l Z R my B ml ret n0 Q h cells slots pc L (.long v :: S) := by
  subst hp; exact Wp.plain (fun K X _ target kt => XT.lstoreN X.here K.1 rfl (hb K.2.1 hd) rfl hl kt) r
theorem Wp.lstore {k : Nat} {v : Int64} {L' : Array Slot} {pc' : Nat} (hd : decode B pc = .ok (.lstore k, 2)) (hl : storeLocals L k (.long v) = some L') (hp : pc + 2 = pc') (r : Wp l Z R my B ml ret n0 Q h cells slots pc' L' S) : Wp l Z R my B ml ret n0 Q h cells slots pc L (.long v :: S) := by
  subst hp; exact Wp.plain (fun K X _ target kt => XT.lstore X.here K.1 rfl (hb K.2.1 hd) rfl hl kt) r
theorem Wp.astoreN {k : Fin 4} {v : Value} {L' : Array Slot} {pc' : Nat} (hd : decode B pc = .ok (.astore_n k, 1)) (hv : v.isRef = true) (hl : storeLocals L k.val v = some L') (hp : pc + 1 = pc') (r : Wp l Z R my B ml ret n0 Q h cells slots pc' L' S) : Wp l Z R my B ml ret n0 Q h cells slots pc L (v :: S) := by
  subst hp; exact Wp.plain (fun K X _ target kt => XS.astoreN X.here K.1 rfl (hb K.2.1 hd) rfl hv hl kt) r
theorem Wp.astore {k : Nat} {v : Value} {L' : Array Slot} {pc' : Nat} (hd : decode B pc = .ok (.astore k, 2)) (hv : v.isRef = true) (hl : storeLocals L k v = some L') (hp : pc + 2 = pc') (r : Wp l Z R my B ml ret n0 Q h cells slots pc' L' S) : Wp l Z R my B ml ret n0 Q h cells slots pc L (v :: S) := by
  subst hp; exact Wp.plain (fun K X _ target kt => XS.astore X.here K.1 rfl (hb K.2.1 hd) rfl hv hl kt) r
theorem Wp.iinc {k : Nat} {cst : Int} {x z : Int32} {L' : Array Slot} {pc' : Nat} (hd : decode B pc = .ok (.iinc k cst, 3)) (hl : L[k]? = some (.val (.int x))) (hz : x + Int32.ofInt cst = z) (hl' : storeLocals L k (.int z) = some L') (hp : pc + 3 = pc') (r : Wp l Z R my B ml ret n0 Q h cells slots pc' L' S) : Wp l Z R my B ml ret n0 Q h cells slots pc L S := by
  subst hp hz; exact Wp.plain (fun K X _ target kt => XS.iinc X.here K.1 rfl (hb K.2.1 hd) hl hl' kt) r
theorem Wp.dup {v : Value} {pc' : Nat} (hd : decode B pc = .ok (.dup, 1)) (hc : v.category = 1) (hp : pc + 1 = pc') (r : Wp l Z R my B ml ret n0 Q h cells slots pc' L (v :: v :: S)) : Wp l Z R my B ml ret n0 Q h cells slots pc L (v :: S) := by
  subst hp; exact Wp.plain (fun K X _ target kt => XS.dup X.here K.1 rfl (hb K.2.1 hd) rfl hc kt) r
theorem Wp.dupX1 {v w : Value} {pc' : Nat} (hd : decode B pc = .ok (.dup_x1, 1)) (hc : v.category = 1) (hc' : w.category = 1) (hp : pc + 1 = pc') (r : Wp l Z R my B ml ret n0 Q h cells slots pc' L (v :: w :: v :: S)) : Wp l Z R my B ml ret n0 Q h cells slots pc L (v :: w :: S) := by
  subst hp; exact Wp.plain (fun K X _ target kt => XT.dupX1 X.here K.1 rfl (hb K.2.1 hd) rfl hc hc' kt) r
theorem Wp.dup2 {v w : Value} {pc' : Nat} (hd : decode B pc = .ok (.dup2, 1)) (hc : v.category = 1) (hc' : w.category = 1) (hp : pc + 1 = pc') (r : Wp l Z R my B ml ret n0 Q h cells slots pc' L (v :: w :: v :: w :: S)) : Wp l Z R my B ml ret n0 Q h cells slots pc L (v :: w :: S) := by
  subst hp; exact Wp.plain (fun K X _ target kt => XT.dup2 X.here K.1 rfl (hb K.2.1 hd) rfl hc hc' kt) r
theorem Wp.dupX2 {u v w : Value} {pc' : Nat} (hd : decode B pc = .ok (.dup_x2, 1)) (hc : u.category = 1) (hc' : v.category = 1) (hc'' : w.category = 1) (hp : pc + 1 = pc') (r : Wp l Z R my B ml ret n0 Q h cells slots pc' L (u :: v :: w :: u :: S)) : Wp l Z R my B ml ret n0 Q h cells slots pc L (u :: v :: w :: S) := by
  subst hp
  refine Wp.plain (fun {p e s m args below meth c T locs} K X _ target kt => ?_) r
  have hx := K.1
  have hd' : decode c.code pc = .ok (.dup_x2, 1) := hb K.2.1 hd
  show Steps p.tables e below (T.setTop { method := m, pc := pc, locals := L, stack := u :: v :: w :: S, locked := none }) _
  jvm_step X.here [X.here.top, hx, hd', dup_x2.wp_sem, hc, hc', hc'']
  exact kt
theorem Wp.pop {v : Value} {pc' : Nat} (hd : decode B pc = .ok (.pop, 1)) (hc : v.category = 1) (hp : pc + 1 = pc') (r : Wp l Z R my B ml ret n0 Q h cells slots pc' L S) : Wp l Z R my B ml ret n0 Q h cells slots pc L (v :: S) := by
  subst hp; exact Wp.plain (fun K X _ target kt => XT.pop X.here K.1 rfl (hb K.2.1 hd) rfl hc kt) r
theorem Wp.iadd {x y z : Int32} {pc' : Nat} (hd : decode B pc = .ok (.iadd, 1)) (hz : x + y = z) (hp : pc + 1 = pc') (r : Wp l Z R my B ml ret n0 Q h cells slots pc' L (.int z :: S)) : Wp l Z R my B ml ret n0 Q h cells slots pc L (.int y :: .int x :: S) := by
  subst hp hz; exact Wp.plain (fun K X _ target kt => XS.iadd X.here K.1 rfl (hb K.2.1 hd) rfl kt) r
theorem Wp.isub {x y z : Int32} {pc' : Nat} (hd : decode B pc = .ok (.isub, 1)) (hz : x - y = z) (hp : pc + 1 = pc') (r : Wp l Z R my B ml ret n0 Q h cells slots pc' L (.int z :: S)) : Wp l Z R my B ml ret n0 Q h cells slots pc L (.int y :: .int x :: S) := by
  subst hp hz; exact Wp.plain (fun K X _ target kt => XS.isub X.here K.1 rfl (hb K.2.1 hd) rfl kt) r
theorem Wp.iand {x y z : Int32} {pc' : Nat} (hd : decode B pc = .ok (.iand, 1)) (hz : x &&& y = z) (hp : pc + 1 = pc') (r : Wp l Z R my B ml ret n0 Q h cells slots pc' L (.int z :: S)) : Wp l Z R my B ml ret n0 Q h cells slots pc L (.int y :: .int x :: S) := by
  subst hp hz; exact Wp.plain (fun K X _ target kt => XS.iand X.here K.1 rfl (hb K.2.1 hd) rfl kt) r
theorem Wp.imul {x y z : Int32} {pc' : Nat} (hd : decode B pc = .ok (.imul, 1)) (hz : x * y = z) (hp : pc + 1 = pc') (r : Wp l Z R my B ml ret n0 Q h cells slots pc' L (.int z :: S)) : Wp l Z R my B ml ret n0 Q h cells slots pc L (.int y :: .int x :: S) := by
  subst hp hz; exact Wp.plain (fun K X _ target kt => XS.imul X.here K.1 rfl (hb K.2.1 hd) rfl kt) r
theorem Wp.ior {x y z : Int32} {pc' : Nat} (hd : decode B pc = .ok (.ior, 1)) (hz : x ||| y = z) (hp : pc + 1 = pc') (r : Wp l Z R my B ml ret n0 Q h cells slots pc' L (.int z :: S)) : Wp l Z R my B ml ret n0 Q h cells slots pc L (.int y :: .int x :: S) := by
  subst hp hz; exact Wp.plain (fun K X _ target kt => XT.ior X.here K.1 rfl (hb K.2.1 hd) rfl kt) r
theorem Wp.ixor {x y z : Int32} {pc' : Nat} (hd : decode B pc = .ok (.ixor, 1)) (hz : x ^^^ y = z) (hp : pc + 1 = pc') (r : Wp l Z R my B ml ret n0 Q h cells slots pc' L (.int z :: S)) : Wp l Z R my B ml ret n0 Q h cells slots pc L (.int y :: .int x :: S) := by
  subst hp hz; exact Wp.plain (fun K X _ target kt => XT.ixor X.here K.1 rfl (hb K.2.1 hd) rfl kt) r
theorem Wp.ishl {x y z : Int32} {pc' : Nat} (hd : decode B pc = .ok (.ishl, 1)) (hz : x <<< (y &&& 31) = z) (hp : pc + 1 = pc') (r : Wp l Z R my B ml ret n0 Q h cells slots pc' L (.int z :: S)) : Wp l Z R my B ml ret n0 Q h cells slots pc L (.int y :: .int x :: S) := by
  subst hp hz; exact Wp.plain (fun K X _ target kt => XT.ishl X.here K.1 rfl (hb K.2.1 hd) rfl kt) r
theorem Wp.ishr {x y z : Int32} {pc' : Nat} (hd : decode B pc = .ok (.ishr, 1)) (hz : x >>> (y &&& 31) = z) (hp : pc + 1 = pc') (r : Wp l Z R my B ml ret n0 Q h cells slots pc' L (.int z :: S)) : Wp l Z R my B ml ret n0 Q h cells slots pc L (.int y :: .int x :: S) := by
  subst hp hz; exact Wp.plain (fun K X _ target kt => XT.ishr X.here K.1 rfl (hb K.2.1 hd) rfl kt) r
theorem Wp.iushr {x y z : Int32} {pc' : Nat} (hd : decode B pc = .ok (.iushr, 1)) (hz : XT.ushr x y = z) (hp : pc + 1 = pc') (r : Wp l Z R my B ml ret n0 Q h cells slots pc' L (.int z :: S)) : Wp l Z R my B ml ret n0 Q h cells slots pc L (.int y :: .int x :: S) := by
  subst hp hz; exact Wp.plain (fun K X _ target kt => XT.iushr X.here K.1 rfl (hb K.2.1 hd) rfl kt) r
theorem Wp.ladd {x y z : Int64} {pc' : Nat} (hd : decode B pc = .ok (.ladd, 1)) (hz : x + y = z) (hp : pc + 1 = pc') (r : Wp l Z R my B ml ret n0 Q h cells slots pc' L (.long z :: S)) : Wp l Z R my B ml ret n0 Q h cells slots pc L (.long y :: .long x :: S) := by
  subst hp hz; exact Wp.plain (fun K X _ target kt => XT.ladd X.here K.1 rfl (hb K.2.1 hd) rfl kt) r
theorem Wp.lsub {x y z : Int64} {pc' : Nat} (hd : decode B pc = .ok (.lsub, 1)) (hz : x - y = z) (hp : pc + 1 = pc') (r : Wp l Z R my B ml ret n0 Q h cells slots pc' L (.long z :: S)) : Wp l Z R my B ml ret n0 Q h cells slots pc L (.long y :: .long x :: S) := by
  subst hp hz; exact Wp.plain (fun K X _ target kt => XT.lsub X.here K.1 rfl (hb K.2.1 hd) rfl kt) r
theorem Wp.lmul {x y z : Int64} {pc' : Nat} (hd : decode B pc = .ok (.lmul, 1)) (hz : x * y = z) (hp : pc + 1 = pc') (r : Wp l Z R my B ml ret n0 Q h cells slots pc' L (.long z :: S)) : Wp l Z R my B ml ret n0 Q h cells slots pc L (.long y :: .long x :: S) := by
  subst hp hz; exact Wp.plain (fun K X _ target kt => XT.lmul X.here K.1 rfl (hb K.2.1 hd) rfl kt) r
theorem Wp.land {x y z : Int64} {pc' : Nat} (hd : decode B pc = .ok (.land, 1)) (hz : x &&& y = z) (hp : pc + 1 = pc') (r : Wp l Z R my B ml ret n0 Q h cells slots pc' L (.long z :: S)) : Wp l Z R my B ml ret n0 Q h cells slots pc L (.long y :: .long x :: S) := by
  subst hp hz; exact Wp.plain (fun K X _ target kt => XT.land X.here K.1 rfl (hb K.2.1 hd) rfl kt) r
theorem Wp.lor {x y z : Int64} {pc' : Nat} (hd : decode B pc = .ok (.lor, 1)) (hz : x ||| y = z) (hp : pc + 1 = pc') (r : Wp l Z R my B ml ret n0 Q h cells slots pc' L (.long z :: S)) : Wp l Z R my B ml ret n0 Q h cells slots pc L (.long y :: .long x :: S) := by
  subst hp hz; exact Wp.plain (fun K X _ target kt => XT.lor X.here K.1 rfl (hb K.2.1 hd) rfl kt) r
theorem Wp.lxor {x y z : Int64} {pc' : Nat} (hd : decode B pc = .ok (.lxor, 1)) (hz : x ^^^ y = z) (hp : pc + 1 = pc') (r : Wp l Z R my B ml ret n0 Q h cells slots pc' L (.long z :: S)) : Wp l Z R my B ml ret n0 Q h cells slots pc L (.long y :: .long x :: S) := by
  subst hp hz; exact Wp.plain (fun K X _ target kt => XT.lxor X.here K.1 rfl (hb K.2.1 hd) rfl kt) r
theorem Wp.i2l {x : Int32} {z : Int64} {pc' : Nat} (hd : decode B pc = .ok (.i2l, 1)) (hz : x.toInt64 = z) (hp : pc + 1 = pc') (r : Wp l Z R my B ml ret n0 Q h cells slots pc' L (.long z :: S)) : Wp l Z R my B ml ret n0 Q h cells slots pc L (.int x :: S) := by
  subst hp hz; exact Wp.plain (fun K X _ target kt => XT.i2l X.here K.1 rfl (hb K.2.1 hd) rfl kt) r
theorem Wp.l2i {x : Int64} {z : Int32} {pc' : Nat} (hd : decode B pc = .ok (.l2i, 1)) (hz : x.toInt32 = z) (hp : pc + 1 = pc') (r : Wp l Z R my B ml ret n0 Q h cells slots pc' L (.int z :: S)) : Wp l Z R my B ml ret n0 Q h cells slots pc L (.long x :: S) := by
  subst hp hz; exact Wp.plain (fun K X _ target kt => XT.l2i X.here K.1 rfl (hb K.2.1 hd) rfl kt) r
theorem Wp.i2b {x : Int32} {z : Int32} {pc' : Nat} (hd : decode B pc = .ok (.i2b, 1)) (hz : x.toInt8.toInt32 = z) (hp : pc + 1 = pc') (r : Wp l Z R my B ml ret n0 Q h cells slots pc' L (.int z :: S)) : Wp l Z R my B ml ret n0 Q h cells slots pc L (.int x :: S) := by
  subst hp hz; exact Wp.plain (fun K X _ target kt => XT.i2b X.here K.1 rfl (hb K.2.1 hd) rfl kt) r
theorem Wp.i2c {x : Int32} {z : Int32} {pc' : Nat} (hd : decode B pc = .ok (.i2c, 1)) (hz : x.toUInt32.toUInt16.toUInt32.toInt32 = z) (hp : pc + 1 = pc') (r : Wp l Z R my B ml ret n0 Q h cells slots pc' L (.int z :: S)) : Wp l Z R my B ml ret n0 Q h cells slots pc L (.int x :: S) := by
  subst hp hz; exact Wp.plain (fun K X _ target kt => XT.i2c X.here K.1 rfl (hb K.2.1 hd) rfl kt) r
theorem Wp.lshl {x z : Int64} {y : Int32} {pc' : Nat} (hd : decode B pc = .ok (.lshl, 1)) (hz : x <<< (y.toInt64 &&& 63) = z) (hp : pc + 1 = pc') (r : Wp l Z R my B ml ret n0 Q h cells slots pc' L (.long z :: S)) : Wp l Z R my B ml ret n0 Q h cells slots pc L (.int y :: .long x :: S) := by
  subst hp hz; exact Wp.plain (fun K X _ target kt => XT.lshl X.here K.1 rfl (hb K.2.1 hd) rfl kt) r
theorem Wp.lshr {x z : Int64} {y : Int32} {pc' : Nat} (hd : decode B pc = .ok (.lshr, 1)) (hz : x >>> (y.toInt64 &&& 63) = z) (hp : pc + 1 = pc') (r : Wp l Z R my B ml ret n0 Q h cells slots pc' L (.long z :: S)) : Wp l Z R my B ml ret n0 Q h cells slots pc L (.int y :: .long x :: S) := by
  subst hp hz; exact Wp.plain (fun K X _ target kt => XT.lshr X.here K.1 rfl (hb K.2.1 hd) rfl kt) r
theorem Wp.lushr {x z : Int64} {y : Int32} {pc' : Nat} (hd : decode B pc = .ok (.lushr, 1)) (hz : XT.ushrL x y = z) (hp : pc + 1 = pc') (r : Wp l Z R my B ml ret n0 Q h cells slots pc' L (.long z :: S)) : Wp l Z R my B ml ret n0 Q h cells slots pc L (.int y :: .long x :: S) := by
  subst hp hz; exact Wp.plain (fun K X _ target kt => XT.lushr X.here K.1 rfl (hb K.2.1 hd) rfl kt) r
theorem Wp.idiv {x y z : Int32} {pc' : Nat} (hd : decode B pc = .ok (.idiv, 1)) (hy : y ≠ 0) (hz : x / y = z) (hp : pc + 1 = pc') (r : Wp l Z R my B ml ret n0 Q h cells slots pc' L (.int z :: S)) : Wp l Z R my B ml ret n0 Q h cells slots pc L (.int y :: .int x :: S) := by
  subst hp hz; exact Wp.plain (fun K X _ target kt => XS.idiv X.here K.1 rfl (hb K.2.1 hd) rfl hy kt) r
theorem Wp.ldiv {x y z : Int64} {pc' : Nat} (hd : decode B pc = .ok (.ldiv, 1)) (hy : y ≠ 0) (hz : x / y = z) (hp : pc + 1 = pc') (r : Wp l Z R my B ml ret n0 Q h cells slots pc' L (.long z :: S)) : Wp l Z R my B ml ret n0 Q h cells slots pc L (.long y :: .long x :: S) := by
  subst hp hz; exact Wp.plain (fun K X _ target kt => XT.ldiv X.here K.1 rfl (hb K.2.1 hd) rfl hy kt) r
theorem Wp.lrem {x y z : Int64} {pc' : Nat} (hd : decode B pc = .ok (.lrem, 1)) (hy : y ≠ 0) (hz : x - (x / y) * y = z) (hp : pc + 1 = pc') (r : Wp l Z R my B ml ret n0 Q h cells slots pc' L (.long z :: S)) : Wp l Z R my B ml ret n0 Q h cells slots pc L (.long y :: .long x :: S) := by
  subst hp hz; exact Wp.plain (fun K X _ target kt => XT.lrem X.here K.1 rfl (hb K.2.1 hd) rfl hy kt) r
theorem Wp.irem {x y z : Int32} {pc' : Nat} (hd : decode B pc = .ok (.irem, 1)) (hy : y ≠ 0) (hz : x % y = z) (hp : pc + 1 = pc') (r : Wp l Z R my B ml ret n0 Q h cells slots pc' L (.int z :: S)) : Wp l Z R my B ml ret n0 Q h cells slots pc L (.int y :: .int x :: S) := by
  subst hp hz; exact Wp.plain (fun K X _ target kt => iremM X K.1 rfl (hb K.2.1 hd) rfl hy kt) r
theorem Wp.goto {o : Int} {pc' : Nat} (hd : decode B pc = .ok (.goto o, 3)) (ho : 0 ≤ (pc : Int) + o) (hp : ((pc : Int) + o).toNat = pc') (r : Wp l Z R my B ml ret n0 Q h cells slots pc' L S) : Wp l Z R my B ml ret n0 Q h cells slots pc L S :=
  Wp.plain (fun K X _ target kt => XS.goto X.here K.1 rfl rfl (hb K.2.1 hd) ho hp kt) r
/-- what a comparison asks -/
abbrev cdP (cd : ClassFile.Cond) (x y : Int32) : Prop := match cd with | .eq => x = y | .ne => x ≠ y | .lt => x < y | .ge => ¬ x < y | .gt => y < x | .le => ¬ y < x
theorem cdP_iff (cd : ClassFile.Cond) (x y : Int32) : if_icmp.holds cd x y = true ↔ cdP cd x y := by
  cases cd <;> simp [if_icmp.holds, cdP, Int32.not_lt]
theorem cdP_not (cd : ClassFile.Cond) (x y : Int32) (h : ¬ cdP cd x y) : if_icmp.holds cd x y = false := by
  cases q : if_icmp.holds cd x y
  · rfl
  · exact absurd ((cdP_iff cd x y).mp q) h
theorem Wp.icmpY {cd : ClassFile.Cond} {x y : Int32} {o : Int} {pc' : Nat} (hd : decode B pc = .ok (.if_icmp cd o, 3)) (hc : cdP cd x y) (ho : 0 ≤ (pc : Int) + o) (hp : ((pc : Int) + o).toNat = pc') (r : Wp l Z R my B ml ret n0 Q h cells slots pc' L S) : Wp l Z R my B ml ret n0 Q h cells slots pc L (.int y :: .int x :: S) :=
  Wp.plain (fun K X _ target kt => XS.icmpYes X.here K.1 rfl rfl (hb K.2.1 hd) rfl ((cdP_iff cd x y).mpr hc) ho hp kt) r
theorem Wp.icmpN {cd : ClassFile.Cond} {x y : Int32} {o : Int} {pc' : Nat} (hd : decode B pc = .ok (.if_icmp cd o, 3)) (hc : ¬ cdP cd x y) (hp : pc + 3 = pc') (r : Wp l Z R my B ml ret n0 Q h cells slots pc' L S) : Wp l Z R my B ml ret n0 Q h cells slots pc L (.int y :: .int x :: S) := by
  subst hp; exact Wp.plain (fun K X _ target kt => XS.icmpNo X.here K.1 rfl (hb K.2.1 hd) rfl (cdP_not cd x y hc) kt) r
theorem Wp.ifY {cd : ClassFile.Cond} {x : Int32} {o : Int} {pc' : Nat} (hd : decode B pc = .ok (.ifCond cd o, 3)) (hc : cdP cd x 0) (ho : 0 ≤ (pc : Int) + o) (hp : ((pc : Int) + o).toNat = pc') (r : Wp l Z R my B ml ret n0 Q h cells slots pc' L S) : Wp l Z R my B ml ret n0 Q h cells slots pc L (.int x :: S) :=
  Wp.plain (fun K X _ target kt => XS.ifYes X.here K.1 rfl rfl (hb K.2.1 hd) rfl ((if0 _ _).trans ((cdP_iff cd x 0).mpr hc)) ho hp kt) r
theorem Wp.ifN {cd : ClassFile.Cond} {x : Int32} {o : Int} {pc' : Nat} (hd : decode B pc = .ok (.ifCond cd o, 3)) (hc : ¬ cdP cd x 0) (hp : pc + 3 = pc') (r : Wp l Z R my B ml ret n0 Q h cells slots pc' L S) : Wp l Z R my B ml ret n0 Q h cells slots pc L (.int x :: S) := by
  subst hp; exact Wp.plain (fun K X _ target kt => XS.ifNo X.here K.1 rfl (hb K.2.1 hd) rfl ((if0 _ _).trans (cdP_not cd x 0 hc)) kt) r
/-- lcmp, then a branch on it -/
abbrev cdL (cd : ClassFile.Cond) (x y : Int64) : Prop := match cd with | .eq => x = y | .ne => x ≠ y | .lt => x < y | .ge => ¬ x < y | .gt => y < x | .le => ¬ y < x
theorem cmpL_lt (x y : Int64) : XT.cmpL x y < 0 ↔ x < y := lw_lt x y
theorem cmpL_gt (x y : Int64) : 0 < XT.cmpL x y ↔ y < x := lw_gt x y
theorem cmpL_eq (x y : Int64) : XT.cmpL x y = 0 ↔ x = y := lw_eq x y
theorem cdL_iff (cd : ClassFile.Cond) (x y : Int64) : cdP cd (XT.cmpL x y) 0 ↔ cdL cd x y := by
  cases cd
  · exact cmpL_eq x y
  · exact not_congr (cmpL_eq x y)
  · exact cmpL_lt x y
  · exact not_congr (cmpL_lt x y)
  · exact cmpL_gt x y
  · exact not_congr (cmpL_gt x y)
theorem Wp.lcmp {x y : Int64} {z : Int32} {pc' : Nat} (hd : decode B pc = .ok (.lcmp, 1)) (hz : XT.cmpL x y = z) (hp : pc + 1 = pc') (r : Wp l Z R my B ml ret n0 Q h cells slots pc' L (.int z :: S)) : Wp l Z R my B ml ret n0 Q h cells slots pc L (.long y :: .long x :: S) := by
  subst hp hz; exact Wp.plain (fun K X _ target kt => XT.lcmp X.here K.1 rfl (hb K.2.1 hd) rfl kt) r
theorem Wp.lcmpY {cd : ClassFile.Cond} {x y : Int64} {o : Int} {p1 pc' : Nat} (hd : decode B pc = .ok (.lcmp, 1)) (h1 : pc + 1 = p1) (hd' : decode B p1 = .ok (.ifCond cd o, 3)) (hc : cdL cd x y) (ho : 0 ≤ (p1 : Int) + o) (hp : ((p1 : Int) + o).toNat = pc') (r : Wp l Z R my B ml ret n0 Q h cells slots pc' L S) : Wp l Z R my B ml ret n0 Q h cells slots pc L (.long y :: .long x :: S) :=
  Wp.lcmp hd rfl h1 (Wp.ifY hd' ((cdL_iff cd x y).mpr hc) ho hp r)
theorem Wp.lcmpN {cd : ClassFile.Cond} {x y : Int64} {o : Int} {p1 pc' : Nat} (hd : decode B pc = .ok (.lcmp, 1)) (h1 : pc + 1 = p1) (hd' : decode B p1 = .ok (.ifCond cd o, 3)) (hc : ¬ cdL cd x y) (hp : p1 + 3 = pc') (r : Wp l Z R my B ml ret n0 Q h cells slots pc' L S) : Wp l Z R my B ml ret n0 Q h cells slots pc L (.long y :: .long x :: S) :=
  Wp.lcmp hd rfl h1 (Wp.ifN hd' (fun q => hc ((cdL_iff cd x y).mp q)) hp r)
theorem Wp.ifnullY {o : Int} {pc' : Nat} (hd : decode B pc = .ok (.ifnull o, 3)) (ho : 0 ≤ (pc : Int) + o) (hp : ((pc : Int) + o).toNat = pc') (r : Wp l Z R my B ml ret n0 Q h cells slots pc' L S) : Wp l Z R my B ml ret n0 Q h cells slots pc L (.null :: S) :=
  Wp.plain (fun K X _ target kt => XS.ifnullYes X.here K.1 rfl rfl (hb K.2.1 hd) rfl ho hp kt) r
theorem Wp.ifnullN {a : Addr} {o : Int} {pc' : Nat} (hd : decode B pc = .ok (.ifnull o, 3)) (hp : pc + 3 = pc') (r : Wp l Z R my B ml ret n0 Q h cells slots pc' L S) : Wp l Z R my B ml ret n0 Q h cells slots pc L (.ref a :: S) := by
  subst hp; exact Wp.plain (fun K X _ target kt => XS.ifnullNo X.here K.1 rfl (hb K.2.1 hd) rfl kt) r
theorem Wp.ifnonnullY {a : Addr} {o : Int} {pc' : Nat} (hd : decode B pc = .ok (.ifnonnull o, 3)) (ho : 0 ≤ (pc : Int) + o) (hp : ((pc : Int) + o).toNat = pc') (r : Wp l Z R my B ml ret n0 Q h cells slots pc' L S) : Wp l Z R my B ml ret n0 Q h cells slots pc L (.ref a :: S) :=
  Wp.plain (fun K X _ target kt => XT.ifnonnullYes X.here K.1 rfl rfl (hb K.2.1 hd) rfl ho hp kt) r
theorem Wp.ifnonnullN {o : Int} {pc' : Nat} (hd : decode B pc = .ok (.ifnonnull o, 3)) (hp : pc + 3 = pc') (r : Wp l Z R my B ml ret n0 Q h cells slots pc' L S) : Wp l Z R my B ml ret n0 Q h cells slots pc L (.null :: S) := by
  subst hp; exact Wp.plain (fun K X _ target kt => XT.ifnonnullNo X.here K.1 rfl (hb K.2.1 hd) rfl kt) r
theorem Wp.acmpY {cd : ClassFile.ACond} {v w : Value} {o : Int} {pc' : Nat} (hd : decode B pc = .ok (.if_acmp cd o, 3)) (hv : v.isRef = true) (hw : w.isRef = true) (hc : XT.acmp cd v w = true) (ho : 0 ≤ (pc : Int) + o) (hp : ((pc : Int) + o).toNat = pc') (r : Wp l Z R my B ml ret n0 Q h cells slots pc' L S) : Wp l Z R my B ml ret n0 Q h cells slots pc L (w :: v :: S) :=
  Wp.plain (fun K X _ target kt => XT.acmpYes X.here K.1 rfl rfl (hb K.2.1 hd) rfl hv hw hc ho hp kt) r
theorem Wp.acmpN {cd : ClassFile.ACond} {v w : Value} {o : Int} {pc' : Nat} (hd : decode B pc = .ok (.if_acmp cd o, 3)) (hv : v.isRef = true) (hw : w.isRef = true) (hc : XT.acmp cd v w = false) (hp : pc + 3 = pc') (r : Wp l Z R my B ml ret n0 Q h cells slots pc' L S) : Wp l Z R my B ml ret n0 Q h cells slots pc L (w :: v :: S) := by
  subst hp; exact Wp.plain (fun K X _ target kt => XT.acmpNo X.here K.1 rfl (hb K.2.1 hd) rfl hv hw hc kt) r
/-- lookupswitch: where it goes -/
theorem Wp.lsw {dflt o : Int} {pairs : Array (Int × Int)} {len : Nat} {i : Int32} {pc' : Nat} (hd : decode B pc = .ok (.lookupswitch dflt pairs, len)) (hsrt : ∀ (a b a' b' : Int), ((a, b), a', b') ∈ pairs.toList.zip pairs.toList.tail → a < a') (hq : lookupswitch.offset pairs.toList dflt i.toInt = o) (ho : 0 ≤ (pc : Int) + o) (hp : ((pc : Int) + o).toNat = pc') (r : Wp l Z R my B ml ret n0 Q h cells slots pc' L S) : Wp l Z R my B ml ret n0 Q h cells slots pc L (.int i :: S) := by
  subst hp hq
  refine Wp.plain (fun {p e s m args below meth c T locs} K X _ target kt => ?_) r
  have hx := K.1
  have hd' : decode c.code pc = .ok (.lookupswitch dflt pairs, len) := hb K.2.1 hd
  show Steps p.tables e below (T.setTop { method := m, pc := pc, locals := L, stack := .int i :: S, locked := none }) _
  jvm_step X.here [X.here.top, hx, hd', lookupswitch.wp_chain, ho]
  exact ⟨hsrt, kt⟩
/-! returns -/
theorem Wp.ends {v : Option Value} (hc : cells ≤ R.cells) (hs : slots ≤ R.slots) (hq : Q v h) (hv : ret = none → v = none)
    (st : ∀ {p : Program} {e : Env} {s : State} {m : MethodId} {args : Array Value} {below : List Frame} {meth : Method} {c : Code} {T : State} {locs : List Loc}, Cx p s m meth c Z my B ml ret → Stand p l e R s m args below meth c T locs cells slots → ∀ fs, (∀ (f : JFrame) (acts : List Action), f.method = m → f.locked = none → f.entered = [] → (doReturn e (T.setTop f) acts v).1 = T.setFrames fs) → Steps p.tables e below (T.setTop (mkF m pc L S)) (T.setFrames fs)) : Wp l Z R my B ml ret n0 Q h cells slots pc L S := by
  intro p e s m args below meth c T locs K X eT N
  obtain ⟨fs, hr, hrun, hended, hW, hsame⟩ := X.leave (v := v) (fun q => hv (K.2.2.2.2.2.2.1.symm.trans q)) K.2.2.2.2.2.2.2
  refine ⟨_, _, st K X fs hr, hrun, hended, v, locs, rfl, ⟨?_, N⟩, ⟨v, rfl⟩, hW, hsame.mono hc hs⟩
  show Q v T.heap
  rw [eT]; exact hq
theorem Wp.retOut {v : Value} {t : FieldType} {i : Instr} (ht : ret = some t) (hn : narrow t v = v)
    (hi : (i = .ireturn ∧ (t = .int ∨ t = .boolean ∨ t = .byte ∨ t = .char ∨ t = .short) ∧ ∃ z, v = .int z) ∨ (i = .lreturn ∧ t = .long ∧ ∃ z, v = .long z) ∨ (i = .dreturn ∧ t = .double ∧ ∃ z, v = .double z) ∨ (i = .freturn ∧ t = .float ∧ ∃ z, v = .float z) ∨ (i = .areturn ∧ t.isReference = true ∧ v.isRef = true))
    (hd : decode B pc = .ok (i, 1)) (hc : cells ≤ R.cells) (hs : slots ≤ R.slots) (hq : Q (some v) h) : Wp l Z R my B ml ret n0 Q h cells slots pc L (v :: S) :=
  Wp.ends hc hs hq (fun q => by rw [ht] at q; cases q) (fun K X fs hl => RoadKit.retOut X K.1 (K.2.2.2.2.2.2.1.trans ht) hn hi (hb K.2.1 hd) hl)
theorem Wp.retI {z : Int32} (ht : ret = some .int) (hd : decode B pc = .ok (.ireturn, 1)) (hc : cells ≤ R.cells) (hs : slots ≤ R.slots) (hq : Q (some (.int z)) h) : Wp l Z R my B ml ret n0 Q h cells slots pc L (.int z :: S) :=
  Wp.retOut ht rfl (Or.inl ⟨rfl, Or.inl rfl, z, rfl⟩) hd hc hs hq
theorem Wp.retL {z : Int64} (ht : ret = some .long) (hd : decode B pc = .ok (.lreturn, 1)) (hc : cells ≤ R.cells) (hs : slots ≤ R.slots) (hq : Q (some (.long z)) h) : Wp l Z R my B ml ret n0 Q h cells slots pc L (.long z :: S) :=
  Wp.retOut ht rfl (Or.inr (Or.inl ⟨rfl, rfl, z, rfl⟩)) hd hc hs hq
/-- a boolean, byte, char or short, that is one already -/
theorem Wp.retS {z : Int32} {t : FieldType} (ht : ret = some t) (hk : t = .boolean ∨ t = .byte ∨ t = .char ∨ t = .short) (hn : narrow t (.int z) = .int z) (hd : decode B pc = .ok (.ireturn, 1)) (hc : cells ≤ R.cells) (hs : slots ≤ R.slots) (hq : Q (some (.int z)) h) : Wp l Z R my B ml ret n0 Q h cells slots pc L (.int z :: S) :=
  Wp.retOut ht hn (Or.inl ⟨rfl, Or.inr hk, z, rfl⟩) hd hc hs hq
theorem Wp.retA {v : Value} {t : FieldType} (ht : ret = some t) (htr : t.isReference = true) (hv : v.isRef = true) (hn : narrow t v = v) (hd : decode B pc = .ok (.areturn, 1)) (hc : cells ≤ R.cells) (hs : slots ≤ R.slots) (hq : Q (some v) h) : Wp l Z R my B ml ret n0 Q h cells slots pc L (v :: S) :=
  Wp.retOut ht hn (Or.inr (Or.inr (Or.inr (Or.inr ⟨rfl, htr, hv⟩)))) hd hc hs hq
theorem Wp.ret0 (ht : ret = none) (hd : decode B pc = .ok (.return_, 1)) (hc : cells ≤ R.cells) (hs : slots ≤ R.slots) (hq : Q none h) : Wp l Z R my B ml ret n0 Q h cells slots pc L [] :=
  Wp.ends hc hs hq (fun _ => rfl) (fun K X fs hl => X.returnOut K.1 (K.2.2.2.2.2.2.1.trans ht) (hb K.2.1 hd) hl)
/-! calls -/
theorem Wp.callS {yy : MethodName} {B' : ByteArray} {ml' : Nat} {ret' : Option FieldType} {rm : Room} {Q' : Option Value → Heap → Prop} {index pc' : Nat} {argsL S0 : List Value} {as : Array Value} (M : Met l Z yy B' ml' ret' rm as h n0 Q')
    (wl : (Jvm.Cond.methodLink my.cls index yy).before a0 Z = true) (ws : (Jvm.Cond.static yy).before a0 Z = true) (wi : (Jvm.Cond.initialized yy.cls).before a0 Z = true) (wc : (Jvm.Cond.code yy B' ml' ret').before a0 Z = true)
    (hy : yy.cls ≠ "java/lang/invoke/MethodHandle" ∧ yy.cls ≠ "java/lang/invoke/VarHandle") {W : Nat} (hsz : L.size = ml) (hlen : ∀ sig, parseMethodDescriptor yy.desc = some sig → argsL.length = sig.parameters.length) (hst : S0 = argsL.reverse ++ S) (has : argsL.toArray = as) (hW : (S.map fun v => v.category).sum ≤ W)
    (hf : rm.frames + 1 ≤ R.frames) (hl : W + (ml' + 11) + rm.locals ≤ R.locals) (hc : cells + rm.cells ≤ R.cells) (hs : slots + rm.slots ≤ R.slots) (hd : decode B pc = .ok (.invokestatic index, 3)) (hp : pc + 3 = pc')
    (r : ∀ v h', Q' v h' → Wp l Z R my B ml ret n0 Q h' (cells + rm.cells) (slots + rm.slots) pc' L (v.toList ++ S)) : Wp l Z R my B ml ret n0 Q h cells slots pc L S0 := by
  intro p e s m args below meth c T locs K X eT N
  subst hp hst
  have hZ := K.2.2.2.1
  obtain ⟨v, vm₁, ⟨T', L', k', n'⟩, -, X', ⟨Lc, hQ, l', y', z'⟩, st⟩ := Jvm.LawKit.callS X K.1 (y := yy) K.2.2.2.2.1 (mvT hZ wl) (mvT hZ ws) (mvT hZ wi) (mvT hZ wc) hy (backOf (W := W) (Q := fun v h L => Q' v h ∧ Fr n0 L) (M []) hZ wc wi hf hl) (g := mkF m pc L (argsL.reverse ++ S)) rfl (hsz.trans K.2.2.1.symm) (argsL := argsL) (rest := S) hlen rfl (by show 2 * 0 + _ ≤ _; rw [Nat.mul_zero, Nat.zero_add]; exact hW) (hb K.2.1 hd) (fun _ _ => ⟨has, eT, hc, hs⟩)
  dsimp only [Pt.U, Pt.locs, Pt.cells, Pt.slots] at X' l' y' z' st hQ
  subst l' y' z'
  obtain ⟨s₂, o, k1, k2⟩ := r v _ hQ.1 p e s m args below meth c T' _ K X' rfl (Fr.app N hQ.2)
  exact ⟨s₂, o, st _ k1, k2⟩
theorem Wp.callV {yy zz : MethodName} {B' : ByteArray} {ml' : Nat} {ret' : Option FieldType} {rm : Room} {Q' : Option Value → Heap → Prop} {index pc' : Nat} {argsL S0 : List Value} {as : Array Value} {a : Addr} {C : String} (M : Met l Z zz B' ml' ret' rm as h n0 Q') (E : Exa Z h a C)
    (wl : (Jvm.Cond.methodLink my.cls index yy).before a0 Z = true) (wd : (Jvm.Cond.declares yy).before a0 Z = true) (wse : (Jvm.Cond.selects C yy zz).before a0 Z = true) (wm : (Jvm.Cond.instanceMethod zz).before a0 Z = true) (wi : (Jvm.Cond.initialized zz.cls).before a0 Z = true) (wc : (Jvm.Cond.code zz B' ml' ret').before a0 Z = true)
    (nf : ∀ s : State, Z.Warmed39 s.vm → NotFace s yy)
    (hy : yy.cls ≠ "java/lang/invoke/MethodHandle" ∧ yy.cls ≠ "java/lang/invoke/VarHandle") {W : Nat} (hsz : L.size = ml) (hlen : ∀ sig, parseMethodDescriptor yy.desc = some sig → argsL.length = sig.parameters.length) (hst : S0 = argsL.reverse ++ .ref a :: S) (has : (.ref a :: argsL).toArray = as) (hW : (S.map fun v => v.category).sum ≤ W)
    (hf : rm.frames + 1 ≤ R.frames) (hl : W + (ml' + 11) + rm.locals ≤ R.locals) (hc : cells + rm.cells ≤ R.cells) (hs : slots + rm.slots ≤ R.slots) (hd : decode B pc = .ok (.invokevirtual index, 3)) (hp : pc + 3 = pc')
    (r : ∀ v h', Q' v h' → Wp l Z R my B ml ret n0 Q h' (cells + rm.cells) (slots + rm.slots) pc' L (v.toList ++ S)) : Wp l Z R my B ml ret n0 Q h cells slots pc L S0 := by
  intro p e s m args below meth c T locs K X eT N
  subst hp hst
  have hZ := K.2.2.2.1
  obtain ⟨cB, kB, q1, -, q3⟩ := isOf hZ eT E
  obtain ⟨v, vm₁, ⟨T', L', k', n'⟩, -, X', ⟨Lc, hQ, l', y', z'⟩, st⟩ := X.virtualBack K.1 (y := yy) (z := zz) K.2.2.2.2.1 (mvT hZ wl) (mvT hZ wd) (nf s hZ) (mvT hZ wse) (mvT hZ wm) hy (backOf (W := W) (Q := fun v h L => Q' v h ∧ Fr n0 L) (M []) hZ wc wi hf hl) q1 q3 (g := mkF m pc L (argsL.reverse ++ .ref a :: S)) rfl (hsz.trans K.2.2.1.symm) (Steps.refl _) (argsL := argsL) (rest := S) hlen rfl (by show 2 * 0 + _ ≤ _; rw [Nat.mul_zero, Nat.zero_add]; exact hW) (hb K.2.1 hd) (fun _ _ => ⟨has, eT, hc, hs⟩)
  dsimp only [Pt.U, Pt.locs, Pt.cells, Pt.slots] at X' l' y' z' st hQ
  subst l' y' z'
  obtain ⟨s₂, o, k1, k2⟩ := r v _ hQ.1 p e s m args below meth c T' _ K X' rfl (Fr.app N hQ.2)
  exact ⟨s₂, o, st.trans k1, k2⟩
theorem nfS {yy : MethodName} {C : String} (w : (Jvm.Cond.selects C yy yy).before a0 Z = true) : ∀ s : State, Z.Warmed39 s.vm → NotFace s yy := fun s hZ => notFace_of_selects (args := #[]) (mvT hZ w)
theorem Wp.callI {yy : MethodName} {B' : ByteArray} {ml' : Nat} {rm : Room} {Q' : Option Value → Heap → Prop} {index pc' : Nat} {argsL S0 : List Value} {as : Array Value} {a : Addr} (M : Met l Z yy B' ml' none rm as h n0 Q') (hin : yy.name = "<init>")
    (wl : (Jvm.Cond.methodLink my.cls index yy).before a0 Z = true) (wm : (Jvm.Cond.instanceMethod yy).before a0 Z = true) (wi : (Jvm.Cond.initialized yy.cls).before a0 Z = true) (wc : (Jvm.Cond.code yy B' ml' none).before a0 Z = true)
    (hy : yy.cls ≠ "java/lang/invoke/MethodHandle" ∧ yy.cls ≠ "java/lang/invoke/VarHandle") {W : Nat} (hsz : L.size = ml) (hlen : ∀ sig, parseMethodDescriptor yy.desc = some sig → argsL.length = sig.parameters.length) (hst : S0 = argsL.reverse ++ .ref a :: S) (has : (.ref a :: argsL).toArray = as) (hW : (S.map fun v => v.category).sum ≤ W)
    (hf : rm.frames + 1 ≤ R.frames) (hl : W + (ml' + 11) + rm.locals ≤ R.locals) (hc : cells + rm.cells ≤ R.cells) (hs : slots + rm.slots ≤ R.slots) (hd : decode B pc = .ok (.invokespecial index, 3)) (hp : pc + 3 = pc')
    (r : ∀ v h', Q' v h' → Wp l Z R my B ml ret n0 Q h' (cells + rm.cells) (slots + rm.slots) pc' L (v.toList ++ S)) : Wp l Z R my B ml ret n0 Q h cells slots pc L S0 := by
  intro p e s m args below meth c T locs K X eT N
  subst hp hst
  have hZ := K.2.2.2.1
  obtain ⟨v, vm₁, ⟨T', L', k', n'⟩, -, X', ⟨Lc, hQ, l', y', z'⟩, st⟩ := X.specialBack K.1 (y := yy) hin K.2.2.2.2.1 (mvT hZ wl) (mvT hZ wm) (mvT hZ wc) hy (backOf (W := W) (Q := fun v h L => Q' v h ∧ Fr n0 L) (M []) hZ wc wi hf hl) (g := mkF m pc L (argsL.reverse ++ .ref a :: S)) rfl (hsz.trans K.2.2.1.symm) (Steps.refl _) (a := a) (argsL := argsL) (rest := S) hlen rfl (by show 2 * 0 + _ ≤ _; rw [Nat.mul_zero, Nat.zero_add]; exact hW) (hb K.2.1 hd) (fun _ _ => ⟨has, eT, hc, hs⟩)
  dsimp only [Pt.U, Pt.locs, Pt.cells, Pt.slots] at X' l' y' z' st hQ
  subst l' y' z'
  obtain ⟨s₂, o, k1, k2⟩ := r v _ hQ.1 p e s m args below meth c T' _ K X' rfl (Fr.app N hQ.2)
  exact ⟨s₂, o, st.trans k1, k2⟩
theorem Wp.initO {a : Addr} {index pc' : Nat} (wl : (Jvm.Cond.methodLink my.cls index Lib.objectInit).before a0 Z = true) (wm : (Jvm.Cond.instanceMethod Lib.objectInit).before a0 Z = true) (wc : (Jvm.Cond.code Lib.objectInit ⟨#[0xb1]⟩ 1 none).before a0 Z = true) {W : Nat} (hsz : L.size = ml) (hW : (S.map fun v => v.category).sum ≤ W) (hf : 1 ≤ R.frames) (hl : W + 12 ≤ R.locals)
    (hd : decode B pc = .ok (.invokespecial index, 3)) (hp : pc + 3 = pc') (r : Wp l Z R my B ml ret n0 Q h cells slots pc' L S) : Wp l Z R my B ml ret n0 Q h cells slots pc L (.ref a :: S) := by
  subst hp
  refine Wp.moved (fun {p e s m args below meth c T locs} K X eT => ?_) r
  exact RoadKit.initO X K.1 K.2.2.2.1 K.2.2.2.2.1 wl wm wc eT (g := mkF m pc L (.ref a :: S)) rfl (hsz.trans K.2.2.1.symm) rfl (hb K.2.1 hd) hf (by show 2 * 0 + _ ≤ _; rw [Nat.mul_zero, Nat.zero_add]; exact hW) hl
end Base
/-! what is known of the heap: a list of places, no two the same, all new, with what each holds -/
def Hp (h : Heap) (n0 : Nat) (Ls : List (Addr × (Cell → Prop))) : Prop := n0 ≤ h.size ∧ Ls.Pairwise (fun x y => x.1 ≠ y.1) ∧ ∀ q ∈ Ls, n0 ≤ q.1 ∧ ∃ c, h[q.1]? = some c ∧ q.2 c
/-- an array: its type, its kind, all its values -/
def ArC (Z : State) (k : ClassId) (ty : FieldType) (vs : List Value) (c : Cell) : Prop := Z.isArrayOf c ty ∧ c.vm ≠ .unknown ∧ c.cls = k ∧ c.slots.toList = vs ∧ ∀ v ∈ vs, fits ty v = true
def FdC (Z : State) (C : String) (f : String × String × Value) (c : Cell) : Prop := ∃ (cf : ClassId) (k : Class) (i : Nat) (fd : Field), Z.fieldFound? C f.1 f.2.1 = some (cf, k, i, fd) ∧ fd.isStatic = false ∧ c.vm ≠ .unknown ∧ c.vm.isStatics = false ∧ Z.vm.assignable c.cls cf = true ∧ c.slots[fd.slot]? = some f.2.2
/-- an object: its type, the fields that are told -/
def ObC (Z : State) (a0 : Array Value) (C : String) (fs : List (String × String × Value)) (c : Cell) : Prop :=
  (∃ k : Class, Z.vm.findClass C = some c.cls ∧ Z.vm.classes[c.cls]? = some k ∧ c.vm.isStatics = false ∧ (k.kind = .ordinary → c.slots.size = k.instanceTypes.size)) ∧ ∀ f ∈ fs, FdC Z C f c ∧ Laid Z a0 C C f.1 f.2.1 ∧ ∃ t, parseFieldDescriptor f.2.1 = some t
section Heap
variable {l : Launch} {Z : State} {R : Room} {my : MethodName} {B : ByteArray} {ml : Nat} {ret : Option FieldType} {n0 : Nat} {Q : Option Value → Heap → Prop} {h h' : Heap} {cells slots pc : Nat} {L : Array Slot} {S : List Value} {a0 : Array Value} {a : Addr} {P P' : Cell → Prop} {Ls Ls' LA LB : List (Addr × (Cell → Prop))} {k : ClassId} {ty : FieldType} {vs : List Value} {C n d : String} {v : Value} {fs F1 F2 : List (String × String × Value)}
theorem Hp.nil (q : n0 ≤ h.size) : Hp h n0 [] := ⟨q, List.Pairwise.nil, fun _ z => nomatch z⟩
theorem Hp.at (O : Hp h n0 Ls) {i : Nat} (hi : Ls[i]? = some (a, P)) : n0 ≤ a ∧ ∃ c, h[a]? = some c ∧ P c := O.2.2 _ (List.mem_of_getElem? hi)
theorem Hp.perm (O : Hp h n0 Ls) (q : Ls.Perm Ls') : Hp h n0 Ls' :=
  ⟨O.1, (q.pairwise_iff (fun {x y} (hh : x.1 ≠ y.1) => Ne.symm hh)).mp O.2.1, fun z hz => O.2.2 z (q.mem_iff.mpr hz)⟩
theorem Hp.front {x : Addr × (Cell → Prop)} (O : Hp h n0 (LA ++ x :: LB)) : Hp h n0 (x :: (LA ++ LB)) := O.perm List.perm_middle
theorem Hp.back {x : Addr × (Cell → Prop)} (O : Hp h n0 (x :: (LA ++ LB))) : Hp h n0 (LA ++ x :: LB) := O.perm List.perm_middle.symm
theorem Hp.drop {x : Addr × (Cell → Prop)} (O : Hp h n0 (x :: Ls)) : Hp h n0 Ls := ⟨O.1, (List.pairwise_cons.mp O.2.1).2, fun z hz => O.2.2 z (List.mem_cons_of_mem _ hz)⟩
theorem Hp.weak (O : Hp h n0 (LA ++ (a, P) :: LB)) (hP : ∀ c, P c → P' c) : Hp h n0 (LA ++ (a, P') :: LB) := by
  obtain ⟨h1, h2, h3⟩ := O
  refine ⟨h1, ?_, fun q hq => ?_⟩
  · rw [List.pairwise_append, List.pairwise_cons] at h2 ⊢
    refine ⟨h2.1, h2.2.1, fun x hx z hz => ?_⟩
    rcases List.mem_cons.mp hz with rfl | hz
    · exact h2.2.2 x hx (a, P) (List.mem_cons_self ..)
    · exact h2.2.2 x hx z (List.mem_cons_of_mem _ hz)
  · rcases List.mem_append.mp hq with hq | hq
    · exact h3 q (List.mem_append_left _ hq)
    · rcases List.mem_cons.mp hq with rfl | hq
      · obtain ⟨u1, c, u2, u3⟩ := h3 (a, P) (List.mem_append_right _ (List.mem_cons_self ..))
        exact ⟨u1, c, u2, hP c u3⟩
      · exact h3 q (List.mem_append_right _ (List.mem_cons_of_mem _ hq))
theorem Hp.wr {sl : Nat} (O : Hp h n0 (LA ++ (a, P) :: LB)) (W : Wr h h' a sl v) (hP : ∀ c, P c → P' (c.setSlot sl v)) : Hp h' n0 (LA ++ (a, P') :: LB) := by
  obtain ⟨h1, h2, h3⟩ := O
  have h2' := h2
  rw [List.pairwise_append, List.pairwise_cons] at h2'
  refine ⟨by rw [W.size]; exact h1, ?_, fun q hq => ?_⟩
  · rw [List.pairwise_append, List.pairwise_cons]
    refine ⟨h2'.1, h2'.2.1, fun x hx z hz => ?_⟩
    rcases List.mem_cons.mp hz with rfl | hz
    · exact h2'.2.2 x hx (a, P) (List.mem_cons_self ..)
    · exact h2'.2.2 x hx z (List.mem_cons_of_mem _ hz)
  · rcases List.mem_append.mp hq with hq | hq
    · obtain ⟨u1, c, u2, u3⟩ := h3 q (List.mem_append_left _ hq)
      obtain ⟨c', w1, -, -, -, w5, -⟩ := wr_at W u2
      have ne : q.1 ≠ a := h2'.2.2 q hq (a, P) (List.mem_cons_self ..)
      exact ⟨u1, c', w1, by rw [w5 ne]; exact u3⟩
    · rcases List.mem_cons.mp hq with rfl | hq
      · obtain ⟨u1, c, u2, u3⟩ := h3 (a, P) (List.mem_append_right _ (List.mem_cons_self ..))
        obtain ⟨c', w1, -, -, -, -, -, w7⟩ := wr_at W u2
        exact ⟨u1, c', w1, by rw [(w7 rfl).1]; exact hP c u3⟩
      · obtain ⟨u1, c, u2, u3⟩ := h3 q (List.mem_append_right _ (List.mem_cons_of_mem _ hq))
        obtain ⟨c', w1, -, -, -, w5, -⟩ := wr_at W u2
        have ne : q.1 ≠ a := fun e => h2'.2.1.1 q hq e.symm
        exact ⟨u1, c', w1, by rw [w5 ne]; exact u3⟩
theorem Hp.new {c : Cell} (O : Hp h n0 Ls) (E : Ext h h') (hc : h'[h.size]? = some c) (hP : P c) : Hp h' n0 ((h.size, P) :: Ls) := by
  obtain ⟨h1, h2, h3⟩ := O
  refine ⟨Nat.le_trans h1 E.1, List.pairwise_cons.mpr ⟨fun q hq e => ?_, h2⟩, fun q hq => ?_⟩
  · obtain ⟨-, c', u2, -⟩ := h3 q hq
    have := (Array.getElem?_eq_some_iff.mp u2).1
    have e' : h.size = q.1 := e
    omega
  · rcases List.mem_cons.mp hq with rfl | hq
    · exact ⟨h1, c, hc, hP⟩
    · obtain ⟨u1, c', u2, u3⟩ := h3 q hq
      exact ⟨u1, c', E.2 _ _ u2, u3⟩
theorem Hp.ne {i j : Nat} {b : Addr} (O : Hp h n0 Ls) (hi : Ls[i]? = some (a, P)) (hj : Ls[j]? = some (b, P')) (hij : i ≠ j) : a ≠ b := by
  obtain ⟨i1, e1⟩ := List.getElem?_eq_some_iff.mp hi
  obtain ⟨j1, e2⟩ := List.getElem?_eq_some_iff.mp hj
  have q := List.pairwise_iff_getElem.mp O.2.1
  rcases Nat.lt_or_gt_of_ne hij with u | u
  · have := q i j i1 j1 u
    rw [e1, e2] at this; exact this
  · have := q j i j1 i1 u
    rw [e1, e2] at this; exact Ne.symm this
theorem ArC.arr {c : Cell} (H : ArC Z k ty vs c) (hc : h[a]? = some c) : Arr Z h a c ty := ⟨hc, H.1, H.2.1⟩
theorem ArC.size {c : Cell} (H : ArC Z k ty vs c) : c.slots.size = vs.length := by rw [← H.2.2.2.1]; simp
theorem ArC.get {c : Cell} (H : ArC Z k ty vs c) (j : Nat) : c.slots[j]? = vs[j]? := by rw [← H.2.2.2.1]; simp
theorem ArC.set {c : Cell} (H : ArC Z k ty vs c) (j : Nat) (hv : fits ty v = true) : ArC Z k ty (vs.set j v) (c.setSlot j v) := by
  refine ⟨H.1, H.2.1, H.2.2.1, ?_, fun w hw => ?_⟩
  · rw [← H.2.2.2.1]; simp [Cell.setSlot]
  · rcases List.mem_or_eq_of_mem_set hw with q | rfl
    · exact H.2.2.2.2 w q
    · exact hv
theorem in_of {c : Cell} {j : Int32} {jn : Nat} (H : ArC Z k ty vs c) (hj : ¬ j < 0) (hjn : j.toNatClampNeg = jn) (hl : jn < vs.length) : ¬ (j < 0 ∨ c.slots.size ≤ j.toNatClampNeg) := by
  rw [H.size, hjn]; exact fun q => q.elim hj (fun q => by omega)
theorem default_fits (ty : FieldType) : fits ty (defaultValue ty) = true := by cases ty <;> rfl
/-! arrays -/
theorem Wp.newarr {aty : ArrayType} {nn : Int32} {m pc' cap : Nat} (O : Hp h n0 Ls) (w : (Jvm.Cond.arrayClass (newarray.typeOf aty)).before a0 Z = true) (hd : decode B pc = .ok (.newarray aty, 2)) (hn : ¬ nn < 0) (hm : nn.toNatClampNeg = m) (hcap : m ≤ cap) (hb' : cap * 8 ≤ 536870912) (hc : cells + 1 ≤ R.cells) (hl : slots + cap ≤ R.slots) (hp : pc + 2 = pc')
    (r : ∀ h' a k, Hp h' n0 ((a, ArC Z k (newarray.typeOf aty) (List.replicate m (defaultValue (newarray.typeOf aty)))) :: Ls) → Wp l Z R my B ml ret n0 Q h' (cells + 1) (slots + cap) pc' L (.ref a :: S)) : Wp l Z R my B ml ret n0 Q h cells slots pc L (.int nn :: S) := by
  intro p e s m' args below meth c T locs K X eT N
  subst hp hm
  obtain ⟨T', h', cA, X', e', E, A, st⟩ := RoadKit.newP X K.1 K.2.2.2.1 w eT (g := mkF m' pc L (.int nn :: S)) rfl (hb K.2.1 hd) rfl hn hcap hb' hc hl
  have O' : Hp h' n0 ((h.size, ArC Z cA (newarray.typeOf aty) (List.replicate nn.toNatClampNeg (defaultValue (newarray.typeOf aty)))) :: Ls) := O.new E A.1 ⟨A.2.1, A.2.2, rfl, by simp [newA], fun v hv => by rw [List.eq_of_mem_replicate hv]; exact default_fits _⟩
  obtain ⟨s₂, o, k1, k2⟩ := r h' h.size cA O' p e s m' args below meth c T' locs K X' e' N
  exact ⟨s₂, o, st _ k1, k2⟩
theorem Wp.arrlen {i pc' : Nat} {z : Int32} (O : Hp h n0 Ls) (hi : Ls[i]? = some (a, ArC Z k ty vs)) (hd : decode B pc = .ok (.arraylength, 1)) (hz : vs.length.toInt32 = z) (hp : pc + 1 = pc') (r : Wp l Z R my B ml ret n0 Q h cells slots pc' L (.int z :: S)) : Wp l Z R my B ml ret n0 Q h cells slots pc L (.ref a :: S) := by
  subst hp hz
  obtain ⟨-, c, hc, H⟩ := O.at hi
  refine Wp.plain (fun {p e s m args below meth c' T locs} K X eT target kt => ?_) r
  refine X.arraylength K.1 (cell := c) (by rw [eT]; exact hc) (State.isArrayOf_alike K.2.2.2.1.alike H.1) (g := mkF m pc L (.ref a :: S)) rfl (rest := S) rfl (hb K.2.1 hd) target ?_
  rw [H.size]; exact kt
theorem Wp.iaload {i pc' jn : Nat} {j : Int32} (O : Hp h n0 Ls) (hi : Ls[i]? = some (a, ArC Z k .int vs)) (hd : decode B pc = .ok (.iaload, 1)) (hj : ¬ j < 0) (hjn : j.toNatClampNeg = jn) (hv : vs[jn]? = some v) (hp : pc + 1 = pc') (r : Wp l Z R my B ml ret n0 Q h cells slots pc' L (v :: S)) : Wp l Z R my B ml ret n0 Q h cells slots pc L (.int j :: .ref a :: S) := by
  subst hp
  obtain ⟨-, c, hc, H⟩ := O.at hi
  have hl : jn < vs.length := (List.getElem?_eq_some_iff.mp hv).1
  refine Wp.plain (fun {p e s m args below meth c' T locs} K X eT target kt => ?_) r
  exact X.iaload K.1 (cell := c) (j := j) (v := v) (by rw [eT]; exact hc) (State.isArrayOf_alike K.2.2.2.1.alike H.1) H.2.1 (in_of H hj hjn hl) (by rw [H.get, hjn]; exact hv) (g := mkF m pc L (.int j :: .ref a :: S)) rfl rfl (hb K.2.1 hd) target kt
theorem Wp.laload {i pc' jn : Nat} {j : Int32} (O : Hp h n0 Ls) (hi : Ls[i]? = some (a, ArC Z k .long vs)) (hd : decode B pc = .ok (.laload, 1)) (hj : ¬ j < 0) (hjn : j.toNatClampNeg = jn) (hv : vs[jn]? = some v) (hp : pc + 1 = pc') (r : Wp l Z R my B ml ret n0 Q h cells slots pc' L (v :: S)) : Wp l Z R my B ml ret n0 Q h cells slots pc L (.int j :: .ref a :: S) := by
  subst hp
  obtain ⟨-, c, hc, H⟩ := O.at hi
  have hl : jn < vs.length := (List.getElem?_eq_some_iff.mp hv).1
  refine Wp.plain (fun {p e s m args below meth c' T locs} K X eT target kt => ?_) r
  exact X.laload K.1 (cell := c) (j := j) (v := v) (by rw [eT]; exact hc) (State.isArrayOf_alike K.2.2.2.1.alike H.1) H.2.1 (in_of H hj hjn hl) (by rw [H.get, hjn]; exact hv) (g := mkF m pc L (.int j :: .ref a :: S)) rfl rfl (hb K.2.1 hd) target kt
theorem Wp.caload {i pc' jn : Nat} {j : Int32} (O : Hp h n0 Ls) (hi : Ls[i]? = some (a, ArC Z k .char vs)) (hd : decode B pc = .ok (.caload, 1)) (hj : ¬ j < 0) (hjn : j.toNatClampNeg = jn) (hv : vs[jn]? = some v) (hp : pc + 1 = pc') (r : Wp l Z R my B ml ret n0 Q h cells slots pc' L (v :: S)) : Wp l Z R my B ml ret n0 Q h cells slots pc L (.int j :: .ref a :: S) := by
  subst hp
  obtain ⟨-, c, hc, H⟩ := O.at hi
  have hl : jn < vs.length := (List.getElem?_eq_some_iff.mp hv).1
  refine Wp.plain (fun {p e s m args below meth c' T locs} K X eT target kt => ?_) r
  exact X.caload K.1 (cell := c) (j := j) (v := v) (by rw [eT]; exact hc) (State.isArrayOf_alike K.2.2.2.1.alike H.1) H.2.1 (in_of H hj hjn hl) (by rw [H.get, hjn]; exact hv) (g := mkF m pc L (.int j :: .ref a :: S)) rfl rfl (hb K.2.1 hd) target kt
theorem Wp.baload {i pc' jn : Nat} {j : Int32} (O : Hp h n0 Ls) (hi : Ls[i]? = some (a, ArC Z k .byte vs)) (hd : decode B pc = .ok (.baload, 1)) (hj : ¬ j < 0) (hjn : j.toNatClampNeg = jn) (hv : vs[jn]? = some v) (hp : pc + 1 = pc') (r : Wp l Z R my B ml ret n0 Q h cells slots pc' L (v :: S)) : Wp l Z R my B ml ret n0 Q h cells slots pc L (.int j :: .ref a :: S) := by
  subst hp
  obtain ⟨-, c, hc, H⟩ := O.at hi
  have hl : jn < vs.length := (List.getElem?_eq_some_iff.mp hv).1
  refine Wp.plain (fun {p e s m args below meth c' T locs} K X eT target kt => ?_) r
  exact X.baloadBytes K.1 (cell := c) (j := j) (v := v) (by rw [eT]; exact hc) (State.isArrayOf_alike K.2.2.2.1.alike H.1) H.2.1 (in_of H hj hjn hl) (by rw [H.get, hjn]; exact hv) (g := mkF m pc L (.int j :: .ref a :: S)) rfl rfl (hb K.2.1 hd) target kt
theorem Wp.iastore {pc' jn : Nat} {j : Int32} {x : Int32} (O : Hp h n0 (LA ++ (a, ArC Z k .int vs) :: LB)) (hd : decode B pc = .ok (.iastore, 1)) (hj : ¬ j < 0) (hjn : j.toNatClampNeg = jn) (hl : jn < vs.length) (hp : pc + 1 = pc') (r : ∀ h', Hp h' n0 (LA ++ (a, ArC Z k .int (vs.set jn (.int x))) :: LB) → Wp l Z R my B ml ret n0 Q h' cells slots pc' L S) : Wp l Z R my B ml ret n0 Q h cells slots pc L (.int x :: .int j :: .ref a :: S) := by
  intro p e s m args below meth c' T locs K X eT N
  subst hp hjn
  obtain ⟨g0, c, hc, H⟩ := O.2.2 _ (List.mem_append_right _ (List.mem_cons_self ..))
  obtain ⟨T', h', X', e', W, st⟩ := RoadKit.stI X K.1 K.2.2.2.1 eT (H.arr hc) (j := j) (in_of H hj rfl hl) (g := mkF m pc L (.int x :: .int j :: .ref a :: S)) rfl rfl (hb K.2.1 hd)
  have O' := O.wr W (P' := ArC Z k .int (vs.set j.toNatClampNeg (.int x))) (fun c0 H0 => H0.set _ (rfl))
  obtain ⟨s₂, o, k1, k2⟩ := r h' O' p e s m args below meth c' T' _ K X' e' (Fr.snoc X' N g0)
  exact ⟨s₂, o, st _ k1, k2⟩
theorem Wp.lastore {pc' jn : Nat} {j : Int32} {x : Int64} (O : Hp h n0 (LA ++ (a, ArC Z k .long vs) :: LB)) (hd : decode B pc = .ok (.lastore, 1)) (hj : ¬ j < 0) (hjn : j.toNatClampNeg = jn) (hl : jn < vs.length) (hp : pc + 1 = pc') (r : ∀ h', Hp h' n0 (LA ++ (a, ArC Z k .long (vs.set jn (.long x))) :: LB) → Wp l Z R my B ml ret n0 Q h' cells slots pc' L S) : Wp l Z R my B ml ret n0 Q h cells slots pc L (.long x :: .int j :: .ref a :: S) := by
  intro p e s m args below meth c' T locs K X eT N
  subst hp hjn
  obtain ⟨g0, c, hc, H⟩ := O.2.2 _ (List.mem_append_right _ (List.mem_cons_self ..))
  obtain ⟨T', h', X', e', W, st⟩ := RoadKit.stJ X K.1 K.2.2.2.1 eT (H.arr hc) (j := j) (in_of H hj rfl hl) (g := mkF m pc L (.long x :: .int j :: .ref a :: S)) rfl rfl (hb K.2.1 hd)
  have O' := O.wr W (P' := ArC Z k .long (vs.set j.toNatClampNeg (.long x))) (fun c0 H0 => H0.set _ (rfl))
  obtain ⟨s₂, o, k1, k2⟩ := r h' O' p e s m args below meth c' T' _ K X' e' (Fr.snoc X' N g0)
  exact ⟨s₂, o, st _ k1, k2⟩
theorem Wp.castore {pc' jn : Nat} {j : Int32} {x : Int32} (O : Hp h n0 (LA ++ (a, ArC Z k .char vs) :: LB)) (hd : decode B pc = .ok (.castore, 1)) (hj : ¬ j < 0) (hjn : j.toNatClampNeg = jn) (hl : jn < vs.length) (hp : pc + 1 = pc') (r : ∀ h', Hp h' n0 (LA ++ (a, ArC Z k .char (vs.set jn (.int (nar .char x)))) :: LB) → Wp l Z R my B ml ret n0 Q h' cells slots pc' L S) : Wp l Z R my B ml ret n0 Q h cells slots pc L (.int x :: .int j :: .ref a :: S) := by
  intro p e s m args below meth c' T locs K X eT N
  subst hp hjn
  obtain ⟨g0, c, hc, H⟩ := O.2.2 _ (List.mem_append_right _ (List.mem_cons_self ..))
  obtain ⟨T', h', X', e', W, st⟩ := RoadKit.stC X K.1 K.2.2.2.1 eT (H.arr hc) (j := j) (in_of H hj rfl hl) (g := mkF m pc L (.int x :: .int j :: .ref a :: S)) rfl rfl (hb K.2.1 hd)
  have O' := O.wr W (P' := ArC Z k .char (vs.set j.toNatClampNeg (.int (nar .char x)))) (fun c0 H0 => H0.set _ (fits_nar_char x))
  obtain ⟨s₂, o, k1, k2⟩ := r h' O' p e s m args below meth c' T' _ K X' e' (Fr.snoc X' N g0)
  exact ⟨s₂, o, st _ k1, k2⟩
theorem Wp.bastore {pc' jn : Nat} {j : Int32} {x : Int32} (O : Hp h n0 (LA ++ (a, ArC Z k .byte vs) :: LB)) (hd : decode B pc = .ok (.bastore, 1)) (hj : ¬ j < 0) (hjn : j.toNatClampNeg = jn) (hl : jn < vs.length) (hp : pc + 1 = pc') (r : ∀ h', Hp h' n0 (LA ++ (a, ArC Z k .byte (vs.set jn (.int (nar .byte x)))) :: LB) → Wp l Z R my B ml ret n0 Q h' cells slots pc' L S) : Wp l Z R my B ml ret n0 Q h cells slots pc L (.int x :: .int j :: .ref a :: S) := by
  intro p e s m args below meth c' T locs K X eT N
  subst hp hjn
  obtain ⟨g0, c, hc, H⟩ := O.2.2 _ (List.mem_append_right _ (List.mem_cons_self ..))
  obtain ⟨T', h', X', e', W, st⟩ := RoadKit.stB X K.1 K.2.2.2.1 eT (H.arr hc) (j := j) (in_of H hj rfl hl) (g := mkF m pc L (.int x :: .int j :: .ref a :: S)) rfl rfl (hb K.2.1 hd)
  have O' := O.wr W (P' := ArC Z k .byte (vs.set j.toNatClampNeg (.int (nar .byte x)))) (fun c0 H0 => H0.set _ (fits_nar_byte x))
  obtain ⟨s₂, o, k1, k2⟩ := r h' O' p e s m args below meth c' T' _ K X' e' (Fr.snoc X' N g0)
  exact ⟨s₂, o, st _ k1, k2⟩
/-! objects -/
theorem FdC.fld {f : String × String × Value} {c : Cell} (F : FdC Z C f c) (hc : h[a]? = some c) : Fld Z h a C f.1 f.2.1 f.2.2 := by
  obtain ⟨cf, k, i, fd, h1, h2, h3, h4, h5, h6⟩ := F
  exact ⟨c, cf, k, i, fd, hc, h1, h2, h3, h4, h5, h6⟩
theorem ObC.exa {c : Cell} (H : ObC Z a0 C fs c) (hc : h[a]? = some c) : Exa Z h a C := by
  obtain ⟨⟨k, h1, h2, h3, h4⟩, -⟩ := H
  exact ⟨c, k, hc, h1, h2, h3, h4⟩
theorem Hp.exa {i : Nat} (O : Hp h n0 Ls) (hi : Ls[i]? = some (a, ObC Z a0 C fs)) : Exa Z h a C := by
  obtain ⟨-, c, hc, H⟩ := O.at hi
  exact H.exa hc
theorem Wp.newO {index nn pc' : Nat} (O : Hp h n0 Ls) (w : (Jvm.Cond.classLink my.cls index C).before a0 Z = true) (wi : (Jvm.Cond.instantiable C nn).before a0 Z = true) (wz : (Jvm.Cond.initialized C).before a0 Z = true) (fs : List (String × String × Value)) (hfs : ∀ f ∈ fs, Laid Z a0 C C f.1 f.2.1 ∧ ∃ t, parseFieldDescriptor f.2.1 = some t ∧ defaultValue t = f.2.2)
    (hd : decode B pc = .ok (.new index, 3)) (hc : cells + 1 ≤ R.cells) (hl : slots + nn ≤ R.slots) (hp : pc + 3 = pc') (r : ∀ h' a, Hp h' n0 ((a, ObC Z a0 C fs) :: Ls) → Wp l Z R my B ml ret n0 Q h' (cells + 1) (slots + nn) pc' L (.ref a :: S)) : Wp l Z R my B ml ret n0 Q h cells slots pc L S := by
  intro p e s m args below meth c' T locs K X eT N
  subst hp
  obtain ⟨T', h', X', e', E, A, D, -, st⟩ := RoadKit.newO X K.1 K.2.2.2.1 K.2.2.2.2.1 w wi wz eT (g := mkF m pc L S) rfl (hb K.2.1 hd) hc hl
  obtain ⟨c, kk, a1, a2, a3, a4, a5⟩ := A
  have O' : Hp h' n0 ((h.size, ObC Z a0 C fs) :: Ls) := O.new E a1 ⟨⟨kk, a2, a3, a4, a5⟩, fun f hf => by
    obtain ⟨q1, t, q2, q3⟩ := hfs f hf
    obtain ⟨c2, cf, k, i, fd, b1, b2, b3, b4, b5, b6, b7⟩ := D q1 q2
    cases a1.symm.trans b1
    exact ⟨⟨cf, k, i, fd, b2, b3, b4, b5, b6, by rw [← q3]; exact b7⟩, q1, t, q2⟩⟩
  obtain ⟨s₂, o, k1, k2⟩ := r h' h.size O' p e s m args below meth c' T' locs K X' e' N
  exact ⟨s₂, o, st _ k1, k2⟩
theorem Wp.getfield {i j index pc' : Nat} (O : Hp h n0 Ls) (hi : Ls[i]? = some (a, ObC Z a0 C fs)) (hj : fs[j]? = some (n, d, v)) (w : (Jvm.Cond.fieldLink my.cls index C n d).before a0 Z = true) (hd : decode B pc = .ok (.getfield index, 3)) (hp : pc + 3 = pc') (r : Wp l Z R my B ml ret n0 Q h cells slots pc' L (v :: S)) : Wp l Z R my B ml ret n0 Q h cells slots pc L (.ref a :: S) := by
  subst hp
  obtain ⟨-, c, hc, H⟩ := O.at hi
  have F := ((H.2 _ (List.mem_of_getElem? hj)).1).fld hc
  exact Wp.moved (fun {p e s m args below meth c' T locs} K X eT => RoadKit.getF X K.1 K.2.2.2.1 K.2.2.2.2.1 (host := "") (Or.inl w) Via.refl eT F (g := mkF m pc L (.ref a :: S)) rfl rfl (hb K.2.1 hd)) r
theorem Wp.putfield {index kk pc' : Nat} {old : Value} (O : Hp h n0 (LA ++ (a, ObC Z a0 C (F1 ++ (n, d, old) :: F2)) :: LB)) (w : (Jvm.Cond.fieldLink my.cls index C n d).before a0 Z = true) (Lw : (Jvm.Cond.lays C C n d).before a0 Z = true ∨ ((Jvm.Cond.laysFinal C C n d).before a0 Z = true ∧ my.cls = C ∧ my.name = "<init>")) (wi : (Jvm.Cond.instantiable C kk).before a0 Z = true)
    (hty : parseFieldDescriptor d = some ty) (hn : narrow ty v = v) (hf : fits ty v = true) (hne : ∀ f ∈ F1 ++ F2, f.1 ≠ n) (hd : decode B pc = .ok (.putfield index, 3)) (hp : pc + 3 = pc') (r : ∀ h', Hp h' n0 (LA ++ (a, ObC Z a0 C (F1 ++ (n, d, v) :: F2)) :: LB) → Wp l Z R my B ml ret n0 Q h' cells slots pc' L S) : Wp l Z R my B ml ret n0 Q h cells slots pc L (v :: .ref a :: S) := by
  intro p e s m args below meth c' T locs K X eT N
  subst hp
  obtain ⟨g0, c, hc, H⟩ := O.2.2 _ (List.mem_append_right _ (List.mem_cons_self ..))
  have Fm := H.2 (n, d, old) (List.mem_append_right _ (List.mem_cons_self ..))
  obtain ⟨T', h', X', e', W, st⟩ := RoadKit.putF X K.1 K.2.2.2.1 K.2.2.2.2.1 (host := "") (Or.inl w) Via.refl eT (Fm.1.fld hc) (H.exa hc) (Lw.imp id fun q => ⟨q.1, q.2.1, K.2.2.2.2.2.1.trans q.2.2⟩) wi hty hn hf (g := mkF m pc L (v :: .ref a :: S)) rfl rfl (hb K.2.1 hd)
  have O' := O.wr W (P' := ObC Z a0 C (F1 ++ (n, d, v) :: F2)) (fun c0 H0 => by
    obtain ⟨⟨k, h1, h2, h3, h4⟩, h5⟩ := H0
    refine ⟨⟨k, h1, h2, h3, fun q => by rw [sz_set]; exact h4 q⟩, fun f hf => ?_⟩
    have old' : ∀ f ∈ F1 ++ F2, FdC Z C f (c0.setSlot (RoadKit.slotOf Z C n d) v) ∧ Laid Z a0 C C f.1 f.2.1 ∧ ∃ t, parseFieldDescriptor f.2.1 = some t := fun f hf => by
      obtain ⟨⟨cf, kf, i, fd, b1, b2, b3, b4, b5, b6⟩, q1, t, q2⟩ := h5 f (by
        rcases List.mem_append.mp hf with u | u
        · exact List.mem_append_left _ u
        · exact List.mem_append_right _ (List.mem_cons_of_mem _ u))
      have ne := slot_ne q1 Fm.2.1 (hne f hf) q2 hty
      have es : RoadKit.slotOf Z C f.1 f.2.1 = fd.slot := by simp [RoadKit.slotOf, b1]
      refine ⟨⟨cf, kf, i, fd, b1, b2, b3, b4, b5, ?_⟩, q1, t, q2⟩
      show (c0.slots.setIfInBounds (RoadKit.slotOf Z C n d) v)[fd.slot]? = _
      rw [Array.getElem?_setIfInBounds_ne (by rw [← es]; exact Ne.symm ne)]; exact b6
    rcases List.mem_append.mp hf with u | u
    · exact old' f (List.mem_append_left _ u)
    · rcases List.mem_cons.mp u with rfl | u
      · obtain ⟨⟨cf, kf, i, fd, b1, b2, b3, b4, b5, b6⟩, q1, t, q2⟩ := h5 (n, d, old) (List.mem_append_right _ (List.mem_cons_self ..))
        have es : RoadKit.slotOf Z C n d = fd.slot := by
          have b1' : Z.fieldFound? C n d = some (cf, kf, i, fd) := b1
          simp [RoadKit.slotOf, b1']
        have hlt : fd.slot < c0.slots.size := (Array.getElem?_eq_some_iff.mp b6).1
        refine ⟨⟨cf, kf, i, fd, b1, b2, b3, b4, b5, ?_⟩, q1, t, q2⟩
        show (c0.slots.setIfInBounds (RoadKit.slotOf Z C n d) v)[fd.slot]? = _
        rw [es, Array.getElem?_setIfInBounds_self_of_lt hlt]
      · exact old' f (List.mem_append_right _ u))
  obtain ⟨s₂, o, k1, k2⟩ := r h' O' p e s m args below meth c' T' _ K X' e' (Fr.snoc X' N g0)
  exact ⟨s₂, o, st _ k1, k2⟩
end Heap
abbrev rmk (f c s w : Nat) : Room := { frames := f, cells := c, slots := s, locals := w }
end Jvm.OwnKit
namespace Jvm.Pilot.@@N@@
open Jvm Jvm.ClassFile Sem Op Lib Jvm.Free Jvm.Stand Jvm.LawKit Jvm.RoadKit Bundle Jvm.OwnKit Jvm.Pilot.@@N@@.Jvm.D
def own_fill : List Value → List Slot
  | [] => []
  | v :: r => if v.category = 2 then .val v :: .second :: own_fill r else .val v :: own_fill r
theorem own_fold : ∀ (l : List Value) (acc : Array Slot), l.foldl (fun (acc : Array Slot) v => if v.category = 2 then (acc.push (.val v)).push .second else acc.push (.val v)) acc = acc ++ (own_fill l).toArray
  | [], acc => by simp [own_fill]
  | v :: r, acc => by
    rw [List.foldl_cons, own_fold r]
    by_cases h : v.category = 2
    · rw [if_pos h, own_fill, if_pos h]; apply Array.ext'; simp
    · rw [if_neg h, own_fill, if_neg h]; apply Array.ext'; simp
theorem own_atl (as : Array Value) (ml : Nat) : argsToLocals as ml = as.foldl (fun (acc : Array Slot) v => if v.category = 2 then (acc.push (.val v)).push .second else acc.push (.val v)) #[] ++ Array.replicate (ml - (as.foldl (fun (acc : Array Slot) v => if v.category = 2 then (acc.push (.val v)).push .second else acc.push (.val v)) #[]).size) .unset := rfl
theorem own_ef {as : Array Value} {ml : Nat} {L0 : Array Slot} (h : own_fill as.toList ++ List.replicate (ml - (own_fill as.toList).length) .unset = L0.toList) (m : MethodId) : entryFrame m as ml = mkF m 0 L0 [] := by
  have e : argsToLocals as ml = L0 := by
    apply Array.ext'
    rw [own_atl, ← Array.foldl_toList, own_fold, ← h]
    simp
  subst e
  rfl

theorem d0_0 : decode jdk_29_method_65_code 0 = .ok (.iload_n 0, 1) := by decide +kernel
theorem d0_1 : decode jdk_29_method_65_code 1 = .ok (.iload_n 1, 1) := by decide +kernel
theorem d0_2 : decode jdk_29_method_65_code 2 = .ok (.if_icmp .lt 7, 3) := by decide +kernel
theorem d0_5 : decode jdk_29_method_65_code 5 = .ok (.iload_n 0, 1) := by decide +kernel
theorem d0_6 : decode jdk_29_method_65_code 6 = .ok (.goto 4, 3) := by decide +kernel
theorem d0_9 : decode jdk_29_method_65_code 9 = .ok (.iload_n 1, 1) := by decide +kernel
theorem d0_10 : decode jdk_29_method_65_code 10 = .ok (.ireturn, 1) := by decide +kernel
theorem d1_0 : decode prog_10_method_7_code 0 = .ok (.aload_n 0, 1) := by decide +kernel
theorem d1_1 : decode prog_10_method_7_code 1 = .ok (.arraylength, 1) := by decide +kernel
theorem d1_2 : decode prog_10_method_7_code 2 = .ok (.aload_n 1, 1) := by decide +kernel
theorem d1_3 : decode prog_10_method_7_code 3 = .ok (.arraylength, 1) := by decide +kernel
theorem d1_4 : decode prog_10_method_7_code 4 = .ok (.if_icmp .eq 5, 3) := by decide +kernel
theorem d1_7 : decode prog_10_method_7_code 7 = .ok (.iconst 0, 1) := by decide +kernel
theorem d1_8 : decode prog_10_method_7_code 8 = .ok (.ireturn, 1) := by decide +kernel
theorem d1_9 : decode prog_10_method_7_code 9 = .ok (.iconst 0, 1) := by decide +kernel
theorem d1_10 : decode prog_10_method_7_code 10 = .ok (.istore_n 3, 1) := by decide +kernel
theorem d1_11 : decode prog_10_method_7_code 11 = .ok (.iload_n 3, 1) := by decide +kernel
theorem d1_12 : decode prog_10_method_7_code 12 = .ok (.aload_n 1, 1) := by decide +kernel
theorem d1_13 : decode prog_10_method_7_code 13 = .ok (.arraylength, 1) := by decide +kernel
theorem d1_14 : decode prog_10_method_7_code 14 = .ok (.if_icmp .ge 35, 3) := by decide +kernel
theorem d1_17 : decode prog_10_method_7_code 17 = .ok (.aload_n 0, 1) := by decide +kernel
theorem d1_18 : decode prog_10_method_7_code 18 = .ok (.iload_n 3, 1) := by decide +kernel
theorem d1_19 : decode prog_10_method_7_code 19 = .ok (.laload, 1) := by decide +kernel
theorem d1_20 : decode prog_10_method_7_code 20 = .ok (.lconst 0, 1) := by decide +kernel
theorem d1_21 : decode prog_10_method_7_code 21 = .ok (.lcmp, 1) := by decide +kernel
theorem d1_22 : decode prog_10_method_7_code 22 = .ok (.ifCond .lt 19, 3) := by decide +kernel
theorem d1_25 : decode prog_10_method_7_code 25 = .ok (.aload_n 0, 1) := by decide +kernel
theorem d1_26 : decode prog_10_method_7_code 26 = .ok (.iload_n 3, 1) := by decide +kernel
theorem d1_27 : decode prog_10_method_7_code 27 = .ok (.laload, 1) := by decide +kernel
theorem d1_28 : decode prog_10_method_7_code 28 = .ok (.aload_n 1, 1) := by decide +kernel
theorem d1_29 : decode prog_10_method_7_code 29 = .ok (.iload_n 3, 1) := by decide +kernel
theorem d1_30 : decode prog_10_method_7_code 30 = .ok (.laload, 1) := by decide +kernel
theorem d1_31 : decode prog_10_method_7_code 31 = .ok (.aload_n 2, 1) := by decide +kernel
theorem d1_32 : decode prog_10_method_7_code 32 = .ok (.iload_n 3, 1) := by decide +kernel
theorem d1_33 : decode prog_10_method_7_code 33 = .ok (.iaload, 1) := by decide +kernel
theorem d1_34 : decode prog_10_method_7_code 34 = .ok (.invokestatic 27, 3) := by decide +kernel
theorem d1_37 : decode prog_10_method_7_code 37 = .ok (.lcmp, 1) := by decide +kernel
theorem d1_38 : decode prog_10_method_7_code 38 = .ok (.ifCond .lt 5, 3) := by decide +kernel
theorem d1_41 : decode prog_10_method_7_code 41 = .ok (.iconst 0, 1) := by decide +kernel
theorem d1_42 : decode prog_10_method_7_code 42 = .ok (.ireturn, 1) := by decide +kernel
theorem d1_43 : decode prog_10_method_7_code 43 = .ok (.iinc 3 1, 3) := by decide +kernel
theorem d1_46 : decode prog_10_method_7_code 46 = .ok (.goto (-35), 3) := by decide +kernel
theorem d1_49 : decode prog_10_method_7_code 49 = .ok (.iconst 1, 1) := by decide +kernel
theorem d1_50 : decode prog_10_method_7_code 50 = .ok (.ireturn, 1) := by decide +kernel
theorem d2_0 : decode method_2_code 0 = .ok (.lload_n 0, 1) := by decide +kernel
theorem d2_1 : decode method_2_code 1 = .ok (.lconst 0, 1) := by decide +kernel
theorem d2_2 : decode method_2_code 2 = .ok (.lcmp, 1) := by decide +kernel
theorem d2_3 : decode method_2_code 3 = .ok (.ifCond .ge 5, 3) := by decide +kernel
theorem d2_6 : decode method_2_code 6 = .ok (.iconst 0, 1) := by decide +kernel
theorem d2_7 : decode method_2_code 7 = .ok (.ireturn, 1) := by decide +kernel
theorem d2_8 : decode method_2_code 8 = .ok (.lload_n 2, 1) := by decide +kernel
theorem d2_9 : decode method_2_code 9 = .ok (.lconst 0, 1) := by decide +kernel
theorem d2_10 : decode method_2_code 10 = .ok (.lcmp, 1) := by decide +kernel
theorem d2_11 : decode method_2_code 11 = .ok (.ifCond .gt 5, 3) := by decide +kernel
theorem d2_14 : decode method_2_code 14 = .ok (.iconst 0, 1) := by decide +kernel
theorem d2_15 : decode method_2_code 15 = .ok (.ireturn, 1) := by decide +kernel
theorem d2_16 : decode method_2_code 16 = .ok (.lload_n 0, 1) := by decide +kernel
theorem d2_17 : decode method_2_code 17 = .ok (.lload_n 2, 1) := by decide +kernel
theorem d2_18 : decode method_2_code 18 = .ok (.lconst 1, 1) := by decide +kernel
theorem d2_19 : decode method_2_code 19 = .ok (.lsub, 1) := by decide +kernel
theorem d2_20 : decode method_2_code 20 = .ok (.iload 4, 2) := by decide +kernel
theorem d2_22 : decode method_2_code 22 = .ok (.i2l, 1) := by decide +kernel
theorem d2_23 : decode method_2_code 23 = .ok (.ldiv, 1) := by decide +kernel
theorem d2_24 : decode method_2_code 24 = .ok (.lcmp, 1) := by decide +kernel
theorem d2_25 : decode method_2_code 25 = .ok (.ifCond .gt 7, 3) := by decide +kernel
theorem d2_28 : decode method_2_code 28 = .ok (.iconst 1, 1) := by decide +kernel
theorem d2_29 : decode method_2_code 29 = .ok (.goto 4, 3) := by decide +kernel
theorem d2_32 : decode method_2_code 32 = .ok (.iconst 0, 1) := by decide +kernel
theorem d2_33 : decode method_2_code 33 = .ok (.ireturn, 1) := by decide +kernel
theorem d3_0 : decode prog_10_method_8_code 0 = .ok (.lload_n 0, 1) := by decide +kernel
theorem d3_1 : decode prog_10_method_8_code 1 = .ok (.iload_n 2, 1) := by decide +kernel
theorem d3_2 : decode prog_10_method_8_code 2 = .ok (.i2l, 1) := by decide +kernel
theorem d3_3 : decode prog_10_method_8_code 3 = .ok (.ldiv, 1) := by decide +kernel
theorem d3_4 : decode prog_10_method_8_code 4 = .ok (.lload_n 0, 1) := by decide +kernel
theorem d3_5 : decode prog_10_method_8_code 5 = .ok (.iload_n 2, 1) := by decide +kernel
theorem d3_6 : decode prog_10_method_8_code 6 = .ok (.i2l, 1) := by decide +kernel
theorem d3_7 : decode prog_10_method_8_code 7 = .ok (.lrem, 1) := by decide +kernel
theorem d3_8 : decode prog_10_method_8_code 8 = .ok (.lconst 0, 1) := by decide +kernel
theorem d3_9 : decode prog_10_method_8_code 9 = .ok (.lcmp, 1) := by decide +kernel
theorem d3_10 : decode prog_10_method_8_code 10 = .ok (.ifCond .ne 7, 3) := by decide +kernel
theorem d3_13 : decode prog_10_method_8_code 13 = .ok (.iconst 0, 1) := by decide +kernel
theorem d3_14 : decode prog_10_method_8_code 14 = .ok (.goto 4, 3) := by decide +kernel
theorem d3_17 : decode prog_10_method_8_code 17 = .ok (.iconst 1, 1) := by decide +kernel
theorem d3_18 : decode prog_10_method_8_code 18 = .ok (.i2l, 1) := by decide +kernel
theorem d3_19 : decode prog_10_method_8_code 19 = .ok (.ladd, 1) := by decide +kernel
theorem d3_20 : decode prog_10_method_8_code 20 = .ok (.lreturn, 1) := by decide +kernel

theorem pn_d : plainName "com/example/keyed_tensor/keyedtensor/array/Dataset" = true := by first | (simp [plainName, overriddenIn]; done) | decide +kernel
theorem pn_l : plainName "com/example/keyed_tensor/keyedtensor/array/DatasetIsInGridPinLaw" = true := by first | (simp [plainName, overriddenIn]; done) | decide +kernel
theorem own_ofF {l : Launch} {Z : State} {R : Room} {my : MethodName} {B : ByteArray} {ml : Nat} {ret : Option FieldType} {n0 : Nat} {Q : Option Value → Heap → Prop} {h : Heap} {as : Array Value} {L0 : Array Slot} (hpl : plainFor my = true) (ef : ∀ m, entryFrame m as ml = mkF m 0 L0 []) (body : Wp l Z R my B ml ret n0 Q h 0 0 0 L0 []) : Met l Z my B ml ret R as h n0 Q := by
  intro ws
  refine MetFree.of_bodySF hpl hisR ?_
  intro p e s m args below meth c s₁ Bd hml0 hP hK
  obtain ⟨rfl, hZ, hh⟩ := hP
  have X0 := Stand.of_body Bd
  have e0 : s₁.heap = h := by rw [← hh, Bd.state]; rfl
  obtain ⟨s₂, o, k1, k2⟩ := body p e s m _ below meth c s₁ [] ⟨Bd.exec, Bd.bytes, hml0, hZ, findClass_of_methodNamed Bd.named, (name_of_methodNamed Bd.named Bd.method).1, Bd.returns, Bd.notSynchronized⟩ X0 e0 (Fr.nil n0)
  exact ⟨s₂, o, castTop (ef m) k1, k2⟩

theorem pd_0 : parseMethodDescriptor "(JI)J" = some ⟨[.long, .int], some .long⟩ := by decide +kernel
theorem pd_1 : parseMethodDescriptor "(JJI)Z" = some ⟨[.long, .long, .int], some .boolean⟩ := by decide +kernel
theorem pd_2 : parseMethodDescriptor "([J[J[I)Z" = some ⟨[(.array .long), (.array .long), (.array .int)], some .boolean⟩ := by decide +kernel
theorem pd_3 : parseMethodDescriptor "(II)I" = some ⟨[.int, .int], some .int⟩ := by decide +kernel

/-! small naturals as ints -/
theorem own_lt {i n : Nat} (hi : i < 2147483648) (hn : n < 2147483648) : (Int32.ofNat i < Int32.ofNat n) ↔ i < n := by
  rw [Int32.lt_iff_toInt_lt, Int32.toInt_ofNat_of_lt (by omega), Int32.toInt_ofNat_of_lt (by omega)]
  omega
theorem own_nn {n : Nat} (hn : n < 2147483648) : ¬ Int32.ofNat n < 0 := by
  rw [Int32.lt_iff_toInt_lt, Int32.toInt_ofNat_of_lt (by omega), show (0 : Int32).toInt = 0 from rfl]
  omega
theorem own_n32 {n : Nat} (hn : n < 2147483648) : (Int32.ofNat n).toNatClampNeg = n := by
  rw [Int32.toNatClampNeg, Int32.toInt_ofNat_of_lt (by omega)]; rfl
theorem own_inj {i n : Nat} (hi : i < 2147483648) (hn : n < 2147483648) : (Int32.ofNat i = Int32.ofNat n) ↔ i = n := by
  rw [← Int32.toInt_inj, Int32.toInt_ofNat_of_lt (by omega), Int32.toInt_ofNat_of_lt (by omega)]
  omega
theorem own_add (i j : Nat) : Int32.ofNat i + Int32.ofNat j = Int32.ofNat (i + j) := (Int32.ofNat_add i j).symm
theorem own_sub {i j : Nat} (h : j ≤ i) : Int32.ofNat i - Int32.ofNat j = Int32.ofNat (i - j) := by
  have e : Int32.ofNat i = Int32.ofNat (i - j) + Int32.ofNat j := by rw [own_add]; congr 1; omega
  rw [e, Int32.add_sub_cancel]
theorem own_one (i : Nat) : Int32.ofNat i + (1 : Int32) = Int32.ofNat (i + 1) := (Int32.ofNat_add i 1).symm
theorem own_toInt {n : Nat} (hn : n < 2147483648) : (Int32.ofNat n).toInt = n := Int32.toInt_ofNat_of_lt (by omega)
/-- an int that isn't negative is a natural -/
theorem own_nat {x : Int32} {b : Nat} (h0 : 0 ≤ x.toInt) (hb : x.toInt ≤ b) : ∃ n : Nat, n ≤ b ∧ n < 2147483648 ∧ x = Int32.ofNat n := by
  have := x.toInt_lt
  refine ⟨x.toInt.toNat, by omega, by omega, Int32.toInt_inj.mp ?_⟩
  rw [own_toInt (by omega)]; omega

def own_max (x y : Int32) : Int32 := if x < y then y else x
def own_cc (s : Int64) (c : Int32) : Int64 := if s - (s / c.toInt64) * c.toInt64 = 0 then s / c.toInt64 + (0 : Int32).toInt64 else s / c.toInt64 + (1 : Int32).toInt64
def own_dim (g s : Int64) (c : Int32) : Int32 := if g < 0 then 0 else if 0 < s then (if (s - 1) / c.toInt64 < g then 0 else 1) else 0
def own_in (g s : Nat → Int64) (c : Nat → Int32) : Nat → Nat → Int32
  | 0, _ => 1
  | k + 1, i => if g i < 0 then 0 else if g i < own_cc (s i) (c i) then own_in g s c k (i + 1) else 0
theorem own_c64 {c : Int32} (h : 0 < c.toInt) : c.toInt64.toInt = c.toInt ∧ c.toInt64 ≠ 0 ∧ c.toInt64 ≠ -1 := by
  have e := c_i2l c
  refine ⟨e, fun q => ?_, fun q => ?_⟩
  · rw [q] at e; have : (0 : Int64).toInt = 0 := rfl; omega
  · rw [q] at e; have : (-1 : Int64).toInt = -1 := rfl; omega
theorem own_ceil {s c : Int} (hs : 0 < s) (hc : 0 < c) : (s - 1) / c = if s % c = 0 then s / c - 1 else s / c := by
  have e := Int.mul_ediv_add_emod s c
  have h1 := Int.emod_nonneg s (show c ≠ 0 by omega)
  have h2 := Int.emod_lt_of_pos s hc
  split
  · rename_i h
    have : s - 1 = (c - 1) + c * (s / c - 1) := by rw [Int.mul_sub]; omega
    rw [this, Int.add_mul_ediv_left _ _ (by omega), Int.ediv_eq_zero_of_lt (by omega) (by omega)]; omega
  · rename_i h
    have : s - 1 = (s % c - 1) + c * (s / c) := by omega
    rw [this, Int.add_mul_ediv_left _ _ (by omega), Int.ediv_eq_zero_of_lt (by omega) (by omega)]; omega
theorem own_ccInt {s : Int64} {c : Int32} (hs : 0 ≤ s.toInt) (hc : 0 < c.toInt) : (own_cc s c).toInt = s.toInt / c.toInt + (if s.toInt % c.toInt = 0 then 0 else 1) := by
  obtain ⟨e, h1, h2⟩ := own_c64 hc
  have d := (c_ldiv s c.toInt64 c.toInt e h2).1 hs
  have r := (c_lrem s c.toInt64 c.toInt e).1 hs
  have b1 : s.toInt / c.toInt ≤ s.toInt := Int.ediv_le_self _ hs
  have b0 : 0 ≤ s.toInt / c.toInt := Int.ediv_nonneg hs (by omega)
  have bs := (rng64 s).2
  have key : (s - (s / c.toInt64) * c.toInt64 = 0) ↔ s.toInt % c.toInt = 0 := by
    rw [← Int64.toInt_inj, r]; exact Iff.rfl
  unfold own_cc
  by_cases q : s.toInt % c.toInt = 0
  · rw [if_pos (key.mpr q), if_pos q]
    have a := c_ladd (s / c.toInt64) (0 : Int32).toInt64
    have z : (0 : Int32).toInt64.toInt = 0 := by decide
    have g := rng64 (s / c.toInt64 + (0 : Int32).toInt64)
    omega
  · rw [if_neg (fun u => q (key.mp u)), if_neg q]
    have a := c_ladd (s / c.toInt64) (1 : Int32).toInt64
    have z : (1 : Int32).toInt64.toInt = 1 := by decide
    have g := rng64 (s / c.toInt64 + (1 : Int32).toInt64)
    have b2 : s.toInt / c.toInt < 9223372036854775807 := by
      rcases Int.lt_or_eq_of_le (show c.toInt ≥ 1 by omega) with u | u
      · have : s.toInt / c.toInt ≤ s.toInt / 2 := by
          have m1 := Int.mul_ediv_add_emod s.toInt c.toInt
          have m2 := Int.emod_nonneg s.toInt (show c.toInt ≠ 0 by omega)
          have m3 : 2 * (s.toInt / c.toInt) ≤ c.toInt * (s.toInt / c.toInt) := Int.mul_le_mul_of_nonneg_right (by omega) b0
          omega
        omega
      · rw [← u] at q; omega
    omega
/-- one dimension: the program's question and the law's -/
theorem own_one_dim {g s : Int64} {c : Int32} (hs : 0 ≤ s.toInt) (hc : 0 < c.toInt) (K : Int32) : (if g < 0 then 0 else if g < own_cc s c then K else 0) = if own_dim g s c = 0 then 0 else K := by
  have z0 : (0 : Int64).toInt = 0 := rfl
  have cc := own_ccInt hs hc
  obtain ⟨e, h1, h2⟩ := own_c64 hc
  unfold own_dim
  simp only [Int64.lt_iff_toInt_lt]
  rw [cc, z0]
  by_cases a1 : g.toInt < 0
  · simp [a1]
  · rw [if_neg a1, if_neg a1]
    by_cases a2 : 0 < s.toInt
    · rw [if_pos a2]
      have sb := c_lsub s 1
      have o1 : (1 : Int64).toInt = 1 := rfl
      have rg := rng64 (s - 1)
      have rs := rng64 s
      have d := (c_ldiv (s - 1) c.toInt64 c.toInt e h2).1 (by omega)
      have sm : (s - 1).toInt = s.toInt - 1 := by omega
      rw [sm, own_ceil a2 hc] at d
      rw [d]
      by_cases a3 : s.toInt % c.toInt = 0
      · rw [if_pos a3, if_pos a3]
        by_cases a4 : s.toInt / c.toInt - 1 < g.toInt
        · rw [if_pos a4, if_neg (by omega)]; simp
        · rw [if_neg a4, if_pos (by omega)]; simp
      · rw [if_neg a3, if_neg a3]
        by_cases a4 : s.toInt / c.toInt < g.toInt
        · rw [if_pos a4, if_neg (by omega)]; simp
        · rw [if_neg a4, if_pos (by omega)]; simp
    · rw [if_neg a2]
      have s0 : s.toInt = 0 := by omega
      rw [s0]; simp; intro u; omega
theorem own_dim01 (g s : Int64) (c : Int32) : own_dim g s c = 0 ∨ own_dim g s c = 1 := by
  unfold own_dim; split
  · exact Or.inl rfl
  · split
    · split
      · exact Or.inl rfl
      · exact Or.inr rfl
    · exact Or.inl rfl
def own_f2 (a b : Int64) (j : Nat) : Int64 := if j = 0 then a else b
def own_c2 (a b : Int32) (j : Nat) : Int32 := if j = 0 then a else b
theorem own_in1 {g0 g1 s0 s1 : Int64} {c0 c1 : Int32} (hs : 0 ≤ s0.toInt) (hc : 0 < c0.toInt) : own_in (own_f2 g0 g1) (own_f2 s0 s1) (own_c2 c0 c1) 1 0 = own_dim g0 s0 c0 := by
  show (if g0 < 0 then 0 else if g0 < own_cc s0 c0 then 1 else 0) = own_dim g0 s0 c0
  rw [own_one_dim hs hc]
  rcases own_dim01 g0 s0 c0 with u | u <;> simp [u]
theorem own_in2 {g0 g1 s0 s1 : Int64} {c0 c1 : Int32} (hs : 0 ≤ s0.toInt) (hc : 0 < c0.toInt) (hs1 : 0 ≤ s1.toInt) (hc1 : 0 < c1.toInt) : own_in (own_f2 g0 g1) (own_f2 s0 s1) (own_c2 c0 c1) 2 0 = if own_dim g0 s0 c0 = 0 then 0 else if own_dim g1 s1 c1 = 0 then 0 else 1 := by
  show (if g0 < 0 then 0 else if g0 < own_cc s0 c0 then (if g1 < 0 then 0 else if g1 < own_cc s1 c1 then 1 else 0) else 0) = _
  rw [own_one_dim hs hc, own_one_dim hs1 hc1]
theorem own_maxpos (x : Int32) : 0 < (own_max 1 (x &&& (2147483647 : Int32))).toInt := by
  have h := c_and x 2147483647 (by decide)
  have o1 : (1 : Int32).toInt = 1 := rfl
  unfold own_max; split
  · rename_i q; rw [Int32.lt_iff_toInt_lt] at q; omega
  · omega
theorem own_c1pos (x : Int32) : 0 < (Free.XT.ushr x (3 : Int32) + (1 : Int32)).toInt := by
  have h : (Free.XT.ushr x (3 : Int32)).toInt = (x.toInt % 4294967296) / ((2 ^ 3 : Nat) : Int) := c_iushr x 3 3 (by decide) (by decide)
  have a := c_iadd (Free.XT.ushr x 3) 1
  have g := rng32 (Free.XT.ushr x 3 + 1)
  have o1 : (1 : Int32).toInt = 1 := rfl
  omega
theorem own_s0 (x : Int64) : 0 ≤ (x &&& (9223372036854775807 : Int64)).toInt := (c_andSL x 9223372036854775807).2.2 (by decide)
theorem own_eight (x : Int32) : (x &&& (7 : Int32)) = 0 ∨ (x &&& (7 : Int32)) = 1 ∨ (x &&& (7 : Int32)) = 2 ∨ (x &&& (7 : Int32)) = 3 ∨ (x &&& (7 : Int32)) = 4 ∨ (x &&& (7 : Int32)) = 5 ∨ (x &&& (7 : Int32)) = 6 ∨ (x &&& (7 : Int32)) = 7 := by
  have h := c_and x 7 (by decide)
  simp only [← Int32.toInt_inj]
  simp only [show (0 : Int32).toInt = 0 from rfl, show (1 : Int32).toInt = 1 from rfl, show (2 : Int32).toInt = 2 from rfl, show (3 : Int32).toInt = 3 from rfl, show (4 : Int32).toInt = 4 from rfl, show (5 : Int32).toInt = 5 from rfl, show (6 : Int32).toInt = 6 from rfl, show (7 : Int32).toInt = 7 from rfl] at *
  omega

theorem own_cz {c0 c1 : Int32} (h0 : 0 < c0.toInt) (h1 : 0 < c1.toInt) (n : Nat) : ∀ j, j < n → (own_c2 c0 c1 j).toInt64 ≠ 0 := fun j _ => by
  unfold own_c2; split
  · exact (own_c64 h0).2.1
  · exact (own_c64 h1).2.1

set_option maxRecDepth 65536 in
set_option maxHeartbeats 40000000 in
theorem rm_max (l : Launch) (Z : State) (a0 : Array Value) (hw : ∀ d ∈ tables_1, d.before a0 Z = true) (x y : Int32) (h : Heap) (n0 : Nat)  :
    Met l Z (⟨"java/lang/Math", "max", "(II)I"⟩ : MethodName) jdk_29_method_65_code 2 (some .int) (rmk 0 0 0 0) #[(.int x), (.int y)] h n0 (fun v h' => v = some (.int (own_max x y)) ∧ h = h') := by
  refine own_ofF (L0 := #[.val (.int x), .val (.int y)]) (Jvm.Free.JP.mathPlain rfl (by decide +kernel)) (own_ef rfl) ?_
  refine Wp.iloadN (pc' := 1) d0_0 rfl rfl ?_
  refine Wp.iloadN (pc' := 2) d0_1 rfl rfl ?_
  by_cases c2 : x < y
  · refine Wp.icmpY (pc' := 9) d0_2 c2 (by decide) (by decide) ?_
    refine Wp.iloadN (pc' := 10) d0_9 rfl rfl ?_
    exact Wp.retI rfl d0_10 (by decide) (by decide) ⟨by simp [own_max, *], rfl⟩
  · refine Wp.icmpN (pc' := 5) d0_2 c2 rfl ?_
    refine Wp.iloadN (pc' := 6) d0_5 rfl rfl ?_
    refine Wp.goto (pc' := 10) d0_6 (by decide) (by decide) ?_
    exact Wp.retI rfl d0_10 (by decide) (by decide) ⟨by simp [own_max, *], rfl⟩

set_option maxRecDepth 65536 in
set_option maxHeartbeats 40000000 in
theorem rm_cc (l : Launch) (Z : State) (a0 : Array Value) (hw : ∀ d ∈ tables_1, d.before a0 Z = true) (s : Int64) (c : Int32) (hc : c.toInt64 ≠ 0) (h : Heap) (n0 : Nat)  :
    Met l Z (⟨"com/example/keyed_tensor/keyedtensor/array/Dataset", "chunkCount", "(JI)J"⟩ : MethodName) prog_10_method_8_code 3 (some .long) (rmk 0 0 0 0) #[(.long s), (.int c)] h n0 (fun v h' => v = some (.long (own_cc s c)) ∧ h = h') := by
  refine Met.of (L0 := #[.val (.long s), .second, .val (.int c)]) pn_d (own_ef rfl) ?_
  refine Wp.lloadN (pc' := 1) d3_0 rfl rfl ?_
  refine Wp.iloadN (pc' := 2) d3_1 rfl rfl ?_
  refine Wp.i2l (z := ((c).toInt64)) (pc' := 3) d3_2 rfl rfl ?_
  refine Wp.ldiv (z := (s / ((c).toInt64))) (pc' := 4) d3_3 hc rfl rfl ?_
  refine Wp.lloadN (pc' := 5) d3_4 rfl rfl ?_
  refine Wp.iloadN (pc' := 6) d3_5 rfl rfl ?_
  refine Wp.i2l (z := ((c).toInt64)) (pc' := 7) d3_6 rfl rfl ?_
  refine Wp.lrem (z := (s - (s / ((c).toInt64)) * ((c).toInt64))) (pc' := 8) d3_7 hc rfl rfl ?_
  refine Wp.lconst (z := (0 : Int64)) (pc' := 9) d3_8 (by decide) rfl ?_
  by_cases c9 : (s - (s / ((c).toInt64)) * ((c).toInt64)) = (0 : Int64)
  · refine Wp.lcmpN (pc' := 13) (p1 := 10) d3_9 rfl d3_10 (not_not_intro c9) rfl ?_
    refine Wp.iconst (z := (0 : Int32)) (pc' := 14) d3_13 (by decide) rfl ?_
    refine Wp.goto (pc' := 18) d3_14 (by decide) (by decide) ?_
    refine Wp.i2l (z := (((0 : Int32)).toInt64)) (pc' := 19) d3_18 rfl rfl ?_
    refine Wp.ladd (z := ((s / ((c).toInt64)) + (((0 : Int32)).toInt64))) (pc' := 20) d3_19 rfl rfl ?_
    exact Wp.retL rfl d3_20 (by decide) (by decide) ⟨by rw [own_cc, if_pos c9], rfl⟩
  · refine Wp.lcmpY (pc' := 17) (p1 := 10) d3_9 rfl d3_10 c9 (by decide) (by decide) ?_
    refine Wp.iconst (z := (1 : Int32)) (pc' := 18) d3_17 (by decide) rfl ?_
    refine Wp.i2l (z := (((1 : Int32)).toInt64)) (pc' := 19) d3_18 rfl rfl ?_
    refine Wp.ladd (z := ((s / ((c).toInt64)) + (((1 : Int32)).toInt64))) (pc' := 20) d3_19 rfl rfl ?_
    exact Wp.retL rfl d3_20 (by decide) (by decide) ⟨by rw [own_cc, if_neg c9], rfl⟩

set_option maxRecDepth 65536 in
set_option maxHeartbeats 40000000 in
theorem rm_dim (l : Launch) (Z : State) (a0 : Array Value) (hw : ∀ d ∈ tables_1, d.before a0 Z = true) (g s : Int64) (c : Int32) (hc : c.toInt64 ≠ 0) (h : Heap) (n0 : Nat)  :
    Met l Z (⟨"com/example/keyed_tensor/keyedtensor/array/DatasetIsInGridPinLaw", "inDim", "(JJI)Z"⟩ : MethodName) method_2_code 5 (some .boolean) (rmk 0 0 0 0) #[(.long g), (.long s), (.int c)] h n0 (fun v h' => v = some (.int (own_dim g s c)) ∧ h = h') := by
  refine Met.of (L0 := #[.val (.long g), .second, .val (.long s), .second, .val (.int c)]) pn_l (own_ef rfl) ?_
  refine Wp.lloadN (pc' := 1) d2_0 rfl rfl ?_
  refine Wp.lconst (z := (0 : Int64)) (pc' := 2) d2_1 (by decide) rfl ?_
  by_cases c2 : g < (0 : Int64)
  · refine Wp.lcmpN (pc' := 6) (p1 := 3) d2_2 rfl d2_3 (not_not_intro c2) rfl ?_
    refine Wp.iconst (z := (0 : Int32)) (pc' := 7) d2_6 (by decide) rfl ?_
    exact Wp.retS (t := .boolean) rfl (Or.inl rfl) rfl d2_7 (by decide) (by decide) ⟨by simp [own_dim, *], rfl⟩
  · refine Wp.lcmpY (pc' := 8) (p1 := 3) d2_2 rfl d2_3 c2 (by decide) (by decide) ?_
    refine Wp.lloadN (pc' := 9) d2_8 rfl rfl ?_
    refine Wp.lconst (z := (0 : Int64)) (pc' := 10) d2_9 (by decide) rfl ?_
    by_cases c10 : (0 : Int64) < s
    · refine Wp.lcmpY (pc' := 16) (p1 := 11) d2_10 rfl d2_11 c10 (by decide) (by decide) ?_
      refine Wp.lloadN (pc' := 17) d2_16 rfl rfl ?_
      refine Wp.lloadN (pc' := 18) d2_17 rfl rfl ?_
      refine Wp.lconst (z := (1 : Int64)) (pc' := 19) d2_18 (by decide) rfl ?_
      refine Wp.lsub (z := (s - (1 : Int64))) (pc' := 20) d2_19 rfl rfl ?_
      refine Wp.iload (pc' := 22) d2_20 rfl rfl ?_
      refine Wp.i2l (z := ((c).toInt64)) (pc' := 23) d2_22 rfl rfl ?_
      refine Wp.ldiv (z := ((s - (1 : Int64)) / ((c).toInt64))) (pc' := 24) d2_23 hc rfl rfl ?_
      by_cases c24 : ((s - (1 : Int64)) / ((c).toInt64)) < g
      · refine Wp.lcmpY (pc' := 32) (p1 := 25) d2_24 rfl d2_25 c24 (by decide) (by decide) ?_
        refine Wp.iconst (z := (0 : Int32)) (pc' := 33) d2_32 (by decide) rfl ?_
        exact Wp.retS (t := .boolean) rfl (Or.inl rfl) rfl d2_33 (by decide) (by decide) ⟨by simp [own_dim, *], rfl⟩
      · refine Wp.lcmpN (pc' := 28) (p1 := 25) d2_24 rfl d2_25 c24 rfl ?_
        refine Wp.iconst (z := (1 : Int32)) (pc' := 29) d2_28 (by decide) rfl ?_
        refine Wp.goto (pc' := 33) d2_29 (by decide) (by decide) ?_
        exact Wp.retS (t := .boolean) rfl (Or.inl rfl) rfl d2_33 (by decide) (by decide) ⟨by simp [own_dim, *], rfl⟩
    · refine Wp.lcmpN (pc' := 14) (p1 := 11) d2_10 rfl d2_11 c10 rfl ?_
      refine Wp.iconst (z := (0 : Int32)) (pc' := 15) d2_14 (by decide) rfl ?_
      exact Wp.retS (t := .boolean) rfl (Or.inl rfl) rfl d2_15 (by decide) (by decide) ⟨by simp [own_dim, *], rfl⟩

set_option maxRecDepth 65536 in
set_option maxHeartbeats 40000000 in
theorem lp (l : Launch) (Z : State) (a0 : Array Value) (hw : ∀ d ∈ tables_1, d.before a0 Z = true) (ga sa ca : Addr) (kg ks kc : ClassId) (gs ss cs : List Value) (g s : Nat → Int64) (c : Nat → Int32) (n : Nat) (hn : n ≤ 16) (h : Heap) (n0 : Nat) {Ls : List (Addr × (Cell → Prop))} (O : Hp h n0 ((ga, ArC Z kg .long gs) :: (sa, ArC Z ks .long ss) :: (ca, ArC Z kc .int cs) :: Ls)) (hsl : ss.length.toInt32 = Int32.ofNat n) (hg : ∀ j, j < n → gs[j]? = some (.long (g j))) (hs : ∀ j, j < n → ss[j]? = some (.long (s j))) (hc : ∀ j, j < n → cs[j]? = some (.int (c j))) (hz : ∀ j, j < n → (c j).toInt64 ≠ 0) :
    ∀ (kk i : Nat), i + kk = n → Wp l Z (rmk 1 0 0 16) (⟨"com/example/keyed_tensor/keyedtensor/array/Dataset", "isInGrid", "([J[J[I)Z"⟩ : MethodName) prog_10_method_7_code 4 (some .boolean) n0 (fun v h' => v = some (.int (own_in g s c kk i)) ∧ h = h') h 0 0 11 #[.val (.ref ga), .val (.ref sa), .val (.ref ca), .val (.int (Int32.ofNat i))] [] := by
  intro kk
  induction kk with
  | zero =>
    intro i hi
    refine Wp.iloadN (pc' := 12) d1_11 rfl rfl ?_
    refine Wp.aloadN (pc' := 13) d1_12 rfl rfl rfl ?_
    refine Wp.arrlen (i := 1) (z := (Int32.ofNat n)) (pc' := 14) O rfl d1_13 hsl rfl ?_
    refine Wp.icmpY (pc' := 49) d1_14 (fun q => by rw [own_lt (by omega) (by omega)] at q; omega) (by decide) (by decide) ?_
    refine Wp.iconst (z := (1 : Int32)) (pc' := 50) d1_49 (by decide) rfl ?_
    exact Wp.retS (t := .boolean) rfl (Or.inl rfl) rfl d1_50 (by decide) (by decide) ⟨rfl, rfl⟩
  | succ kk ih =>
    intro i hi
    refine Wp.iloadN (pc' := 12) d1_11 rfl rfl ?_
    refine Wp.aloadN (pc' := 13) d1_12 rfl rfl rfl ?_
    refine Wp.arrlen (i := 1) (z := (Int32.ofNat n)) (pc' := 14) O rfl d1_13 hsl rfl ?_
    refine Wp.icmpN (pc' := 17) d1_14 (not_not_intro ((own_lt (by omega) (by omega)).mpr (by omega))) rfl ?_
    refine Wp.aloadN (pc' := 18) d1_17 rfl rfl rfl ?_
    refine Wp.iloadN (pc' := 19) d1_18 rfl rfl ?_
    refine Wp.laload (i := 0) (jn := i) (v := (.long (g i))) (pc' := 20) O rfl d1_19 (own_nn (by omega)) (own_n32 (by omega)) (hg i (by omega)) rfl ?_
    refine Wp.lconst (z := (0 : Int64)) (pc' := 21) d1_20 (by decide) rfl ?_
    by_cases c21 : (g i) < (0 : Int64)
    · refine Wp.lcmpY (pc' := 41) (p1 := 22) d1_21 rfl d1_22 c21 (by decide) (by decide) ?_
      refine Wp.iconst (z := (0 : Int32)) (pc' := 42) d1_41 (by decide) rfl ?_
      exact Wp.retS (t := .boolean) rfl (Or.inl rfl) rfl d1_42 (by decide) (by decide) ⟨by simp [own_in, *], rfl⟩
    · refine Wp.lcmpN (pc' := 25) (p1 := 22) d1_21 rfl d1_22 c21 rfl ?_
      refine Wp.aloadN (pc' := 26) d1_25 rfl rfl rfl ?_
      refine Wp.iloadN (pc' := 27) d1_26 rfl rfl ?_
      refine Wp.laload (i := 0) (jn := i) (v := (.long (g i))) (pc' := 28) O rfl d1_27 (own_nn (by omega)) (own_n32 (by omega)) (hg i (by omega)) rfl ?_
      refine Wp.aloadN (pc' := 29) d1_28 rfl rfl rfl ?_
      refine Wp.iloadN (pc' := 30) d1_29 rfl rfl ?_
      refine Wp.laload (i := 1) (jn := i) (v := (.long (s i))) (pc' := 31) O rfl d1_30 (own_nn (by omega)) (own_n32 (by omega)) (hs i (by omega)) rfl ?_
      refine Wp.aloadN (pc' := 32) d1_31 rfl rfl rfl ?_
      refine Wp.iloadN (pc' := 33) d1_32 rfl rfl ?_
      refine Wp.iaload (i := 2) (jn := i) (v := (.int (c i))) (pc' := 34) O rfl d1_33 (own_nn (by omega)) (own_n32 (by omega)) (hc i (by omega)) rfl ?_
      refine Wp.callS (yy := (⟨"com/example/keyed_tensor/keyedtensor/array/Dataset", "chunkCount", "(JI)J"⟩ : MethodName)) (pc' := 37) (argsL := [(.long (s i)), (.int (c i))]) (S := [(.long (g i))]) (rm_cc l Z a0 hw (s i) (c i) (hz i (by omega)) h n0) (hw _ (List.mem_of_getElem? (i := 16) rfl)) (hw _ (List.mem_of_getElem? (i := 17) rfl)) (hw _ (List.mem_of_getElem? (i := 10) rfl)) (hw _ (List.mem_of_getElem? (i := 18) rfl)) (by decide) (W := 2) rfl (lenOf pd_0 rfl) rfl rfl (Nat.le_refl 2) (by decide) (by decide) (by decide) (by decide) d1_34 rfl ?_
      rintro _ _ ⟨rfl, rfl⟩
      show Wp _ _ _ _ _ _ _ _ _ _ _ _ 37 #[.val (.ref ga), .val (.ref sa), .val (.ref ca), .val (.int (Int32.ofNat i))] [(.long (own_cc (s i) (c i))), (.long (g i))]
      by_cases c37 : (g i) < (own_cc (s i) (c i))
      · refine Wp.lcmpY (pc' := 43) (p1 := 38) d1_37 rfl d1_38 c37 (by decide) (by decide) ?_
        refine Wp.iinc (z := (Int32.ofNat (i + 1))) (L' := #[.val (.ref ga), .val (.ref sa), .val (.ref ca), .val (.int (Int32.ofNat (i + 1)))]) (pc' := 46) d1_43 rfl (own_one i) rfl rfl ?_
        refine Wp.goto (pc' := 11) d1_46 (by decide) (by decide) ?_
        rw [show own_in g s c (kk + 1) i = own_in g s c kk (i + 1) from by rw [own_in, if_neg c21, if_pos c37]]
        exact ih (i + 1) (by omega)
      · refine Wp.lcmpN (pc' := 41) (p1 := 38) d1_37 rfl d1_38 c37 rfl ?_
        refine Wp.iconst (z := (0 : Int32)) (pc' := 42) d1_41 (by decide) rfl ?_
        exact Wp.retS (t := .boolean) rfl (Or.inl rfl) rfl d1_42 (by decide) (by decide) ⟨by simp [own_in, *], rfl⟩

set_option maxRecDepth 65536 in
set_option maxHeartbeats 40000000 in
theorem rm_in (l : Launch) (Z : State) (a0 : Array Value) (hw : ∀ d ∈ tables_1, d.before a0 Z = true) (ga sa ca : Addr) (kg ks kc : ClassId) (gs ss cs : List Value) (g s : Nat → Int64) (c : Nat → Int32) (n : Nat) (hn : n ≤ 16) (h : Heap) (n0 : Nat) {Ls : List (Addr × (Cell → Prop))} (O : Hp h n0 ((ga, ArC Z kg .long gs) :: (sa, ArC Z ks .long ss) :: (ca, ArC Z kc .int cs) :: Ls)) (hgl : gs.length.toInt32 = Int32.ofNat n) (hsl : ss.length.toInt32 = Int32.ofNat n) (hg : ∀ j, j < n → gs[j]? = some (.long (g j))) (hs : ∀ j, j < n → ss[j]? = some (.long (s j))) (hc : ∀ j, j < n → cs[j]? = some (.int (c j))) (hz : ∀ j, j < n → (c j).toInt64 ≠ 0) :
    Met l Z (⟨"com/example/keyed_tensor/keyedtensor/array/Dataset", "isInGrid", "([J[J[I)Z"⟩ : MethodName) prog_10_method_7_code 4 (some .boolean) (rmk 1 0 0 16) #[(.ref ga), (.ref sa), (.ref ca)] h n0 (fun v h' => v = some (.int (own_in g s c n 0)) ∧ h = h') := by
  refine Met.of (L0 := #[.val (.ref ga), .val (.ref sa), .val (.ref ca), .unset]) pn_d (own_ef rfl) ?_
  refine Wp.aloadN (pc' := 1) d1_0 rfl rfl rfl ?_
  refine Wp.arrlen (i := 0) (z := (Int32.ofNat n)) (pc' := 2) O rfl d1_1 hgl rfl ?_
  refine Wp.aloadN (pc' := 3) d1_2 rfl rfl rfl ?_
  refine Wp.arrlen (i := 1) (z := (Int32.ofNat n)) (pc' := 4) O rfl d1_3 hsl rfl ?_
  refine Wp.icmpY (pc' := 9) d1_4 rfl (by decide) (by decide) ?_
  refine Wp.iconst (z := (0 : Int32)) (pc' := 10) d1_9 (by decide) rfl ?_
  refine Wp.istoreN (L' := #[.val (.ref ga), .val (.ref sa), .val (.ref ca), .val (.int (0 : Int32))]) (pc' := 11) d1_10 rfl rfl ?_
  exact lp l Z a0 hw ga sa ca kg ks kc gs ss cs g s c n hn h n0 O hsl hg hs hc hz n 0 (by omega)

set_option maxRecDepth 65536 in
set_option maxHeartbeats 40000000 in
theorem rm_ne (l : Launch) (Z : State) (a0 : Array Value) (hw : ∀ d ∈ tables_1, d.before a0 Z = true) (ga sa ca : Addr) (kg ks kc : ClassId) (gs ss cs : List Value) (h : Heap) (n0 : Nat) {Ls : List (Addr × (Cell → Prop))} (O : Hp h n0 ((ga, ArC Z kg .long gs) :: (sa, ArC Z ks .long ss) :: (ca, ArC Z kc .int cs) :: Ls)) (hne : ¬ gs.length.toInt32 = ss.length.toInt32) :
    Met l Z (⟨"com/example/keyed_tensor/keyedtensor/array/Dataset", "isInGrid", "([J[J[I)Z"⟩ : MethodName) prog_10_method_7_code 4 (some .boolean) (rmk 1 0 0 16) #[(.ref ga), (.ref sa), (.ref ca)] h n0 (fun v h' => v = some (.int 0) ∧ h = h') := by
  refine Met.of (L0 := #[.val (.ref ga), .val (.ref sa), .val (.ref ca), .unset]) pn_d (own_ef rfl) ?_
  refine Wp.aloadN (pc' := 1) d1_0 rfl rfl rfl ?_
  refine Wp.arrlen (i := 0) (z := gs.length.toInt32) (pc' := 2) O rfl d1_1 rfl rfl ?_
  refine Wp.aloadN (pc' := 3) d1_2 rfl rfl rfl ?_
  refine Wp.arrlen (i := 1) (z := ss.length.toInt32) (pc' := 4) O rfl d1_3 rfl rfl ?_
  refine Wp.icmpN (pc' := 7) d1_4 hne rfl ?_
  refine Wp.iconst (z := (0 : Int32)) (pc' := 8) d1_7 (by decide) rfl ?_
  exact Wp.retS (t := .boolean) rfl (Or.inl rfl) rfl d1_8 (by decide) (by decide) ⟨rfl, rfl⟩

set_option maxRecDepth 65536 in
set_option maxHeartbeats 40000000 in
theorem tl_11 (l : Launch) (Z : State) (a0 : Array Value) (hw : ∀ d ∈ tables_1, d.before a0 Z = true) (g0 g1 r0 r1 s0 s1 : Int64) (r2 mode q c0 c1 : Int32) (hs0 : 0 ≤ s0.toInt) (hs1 : 0 ≤ s1.toInt) (hc0 : 0 < c0.toInt) (hc1 : 0 < c1.toInt) (h : Heap) (n0 : Nat) (O : Hp h n0 []) :
    Wp l Z room_1 x code maxLocals ret n0 (fun v _ => v = some (.int 1)) h 0 0 152 #[.val (.long g0), .second, .val (.long r0), .second, .val (.int r2), .val (.long g1), .second, .val (.long r1), .second, .val (.int mode), .val (.int q), .val (.int (1 : Int32)), .val (.int (1 : Int32)), .val (.long s0), .second, .val (.long s1), .second, .val (.int c0), .val (.int c1), .unset, .unset, .unset, .unset, .unset] [] := by
  refine Wp.iload (pc' := 154) at_152 rfl rfl ?_
  refine Wp.newarr (m := 1) (cap := 1) (pc' := 156) O (hw _ (List.mem_of_getElem? (i := 6) rfl)) at_154 (by decide) rfl (Nat.le_refl _) (by decide) (by decide) (by decide) rfl ?_
  intro h2 ga k1 O2
  have O2 : Hp h2 n0 [(ga, ArC Z k1 .long [(.long (0 : Int64))])] := O2
  refine Wp.astore (L' := #[.val (.long g0), .second, .val (.long r0), .second, .val (.int r2), .val (.long g1), .second, .val (.long r1), .second, .val (.int mode), .val (.int q), .val (.int (1 : Int32)), .val (.int (1 : Int32)), .val (.long s0), .second, .val (.long s1), .second, .val (.int c0), .val (.int c1), .val (.ref ga), .unset, .unset, .unset, .unset]) (pc' := 158) at_156 rfl rfl rfl ?_
  refine Wp.iload (pc' := 160) at_158 rfl rfl ?_
  refine Wp.newarr (m := 1) (cap := 1) (pc' := 162) O2 (hw _ (List.mem_of_getElem? (i := 6) rfl)) at_160 (by decide) rfl (Nat.le_refl _) (by decide) (by decide) (by decide) rfl ?_
  intro h4 sa k3 O4
  have O4 : Hp h4 n0 [(sa, ArC Z k3 .long [(.long (0 : Int64))]), (ga, ArC Z k1 .long [(.long (0 : Int64))])] := O4
  refine Wp.astore (L' := #[.val (.long g0), .second, .val (.long r0), .second, .val (.int r2), .val (.long g1), .second, .val (.long r1), .second, .val (.int mode), .val (.int q), .val (.int (1 : Int32)), .val (.int (1 : Int32)), .val (.long s0), .second, .val (.long s1), .second, .val (.int c0), .val (.int c1), .val (.ref ga), .val (.ref sa), .unset, .unset, .unset]) (pc' := 164) at_162 rfl rfl rfl ?_
  refine Wp.iload (pc' := 166) at_164 rfl rfl ?_
  refine Wp.newarr (m := 1) (cap := 1) (pc' := 168) O4 (hw _ (List.mem_of_getElem? (i := 7) rfl)) at_166 (by decide) rfl (Nat.le_refl _) (by decide) (by decide) (by decide) rfl ?_
  intro h6 ca k5 O6
  have O6 : Hp h6 n0 [(ca, ArC Z k5 .int [(.int (0 : Int32))]), (sa, ArC Z k3 .long [(.long (0 : Int64))]), (ga, ArC Z k1 .long [(.long (0 : Int64))])] := O6
  refine Wp.astore (L' := #[.val (.long g0), .second, .val (.long r0), .second, .val (.int r2), .val (.long g1), .second, .val (.long r1), .second, .val (.int mode), .val (.int q), .val (.int (1 : Int32)), .val (.int (1 : Int32)), .val (.long s0), .second, .val (.long s1), .second, .val (.int c0), .val (.int c1), .val (.ref ga), .val (.ref sa), .val (.ref ca), .unset, .unset]) (pc' := 170) at_168 rfl rfl rfl ?_
  refine Wp.iload (pc' := 172) at_170 rfl rfl ?_
  refine Wp.ifN (pc' := 175) at_172 (not_not_intro (by decide)) rfl ?_
  refine Wp.aload (pc' := 177) at_175 rfl rfl rfl ?_
  refine Wp.iconst (z := (0 : Int32)) (pc' := 178) at_177 (by decide) rfl ?_
  refine Wp.lloadN (pc' := 179) at_178 rfl rfl ?_
  refine Wp.lastore (LA := [_, _]) (jn := 0) (pc' := 180) O6 at_179 (by decide) rfl (by first | decide | simp) rfl ?_
  intro h7 O7
  have O7 : Hp h7 n0 [(ca, ArC Z k5 .int [(.int (0 : Int32))]), (sa, ArC Z k3 .long [(.long (0 : Int64))]), (ga, ArC Z k1 .long [(.long g0)])] := O7
  refine Wp.iload (pc' := 182) at_180 rfl rfl ?_
  refine Wp.iconst (z := (1 : Int32)) (pc' := 183) at_182 (by decide) rfl ?_
  refine Wp.icmpY (pc' := 192) at_183 (by decide) (by decide) (by decide) ?_
  refine Wp.iload (pc' := 194) at_192 rfl rfl ?_
  refine Wp.ifN (pc' := 197) at_194 (not_not_intro (by decide)) rfl ?_
  refine Wp.aload (pc' := 199) at_197 rfl rfl rfl ?_
  refine Wp.iconst (z := (0 : Int32)) (pc' := 200) at_199 (by decide) rfl ?_
  refine Wp.lload (pc' := 202) at_200 rfl rfl ?_
  refine Wp.lastore (LA := [_]) (jn := 0) (pc' := 203) O7 at_202 (by decide) rfl (by first | decide | simp) rfl ?_
  intro h8 O8
  have O8 : Hp h8 n0 [(ca, ArC Z k5 .int [(.int (0 : Int32))]), (sa, ArC Z k3 .long [(.long s0)]), (ga, ArC Z k1 .long [(.long g0)])] := O8
  refine Wp.aload (pc' := 205) at_203 rfl rfl rfl ?_
  refine Wp.iconst (z := (0 : Int32)) (pc' := 206) at_205 (by decide) rfl ?_
  refine Wp.iload (pc' := 208) at_206 rfl rfl ?_
  refine Wp.iastore (LA := []) (jn := 0) (pc' := 209) O8 at_208 (by decide) rfl (by first | decide | simp) rfl ?_
  intro h9 O9
  have O9 : Hp h9 n0 [(ca, ArC Z k5 .int [(.int c0)]), (sa, ArC Z k3 .long [(.long s0)]), (ga, ArC Z k1 .long [(.long g0)])] := O9
  refine Wp.iload (pc' := 211) at_209 rfl rfl ?_
  refine Wp.iconst (z := (1 : Int32)) (pc' := 212) at_211 (by decide) rfl ?_
  refine Wp.icmpY (pc' := 227) at_212 (by decide) (by decide) (by decide) ?_
  refine Wp.iload (pc' := 229) at_227 rfl rfl ?_
  refine Wp.iload (pc' := 231) at_229 rfl rfl ?_
  refine Wp.icmpY (pc' := 240) at_231 (by decide) (by decide) (by decide) ?_
  refine Wp.iload (pc' := 242) at_240 rfl rfl ?_
  refine Wp.ifY (pc' := 251) at_242 (by decide) (by decide) (by decide) ?_
  refine Wp.iload (pc' := 253) at_251 rfl rfl ?_
  refine Wp.iconst (z := (1 : Int32)) (pc' := 254) at_253 (by decide) rfl ?_
  refine Wp.icmpN (pc' := 257) at_254 (not_not_intro rfl) rfl ?_
  refine Wp.lloadN (pc' := 258) at_257 rfl rfl ?_
  refine Wp.lload (pc' := 260) at_258 rfl rfl ?_
  refine Wp.iload (pc' := 262) at_260 rfl rfl ?_
  refine Wp.callS (yy := (⟨"com/example/keyed_tensor/keyedtensor/array/DatasetIsInGridPinLaw", "inDim", "(JJI)Z"⟩ : MethodName)) (pc' := 265) (argsL := [(.long g0), (.long s0), (.int c0)]) (S := []) (rm_dim l Z a0 hw g0 s0 c0 (own_c64 hc0).2.1 h9 n0) (hw _ (List.mem_of_getElem? (i := 12) rfl)) (hw _ (List.mem_of_getElem? (i := 13) rfl)) (hw _ (List.mem_of_getElem? (i := 14) rfl)) (hw _ (List.mem_of_getElem? (i := 15) rfl)) (by decide) (W := 0) rfl (lenOf pd_1 rfl) rfl rfl (Nat.le_refl 0) (by decide) (by decide) (by decide) (by decide) at_262 rfl ?_
  rintro _ _ ⟨rfl, rfl⟩
  show Wp _ _ _ _ _ _ _ _ _ _ _ _ 265 #[.val (.long g0), .second, .val (.long r0), .second, .val (.int r2), .val (.long g1), .second, .val (.long r1), .second, .val (.int mode), .val (.int q), .val (.int (1 : Int32)), .val (.int (1 : Int32)), .val (.long s0), .second, .val (.long s1), .second, .val (.int c0), .val (.int c1), .val (.ref ga), .val (.ref sa), .val (.ref ca), .unset, .unset] [(.int (own_dim g0 s0 c0))]
  refine Wp.istore (L' := #[.val (.long g0), .second, .val (.long r0), .second, .val (.int r2), .val (.long g1), .second, .val (.long r1), .second, .val (.int mode), .val (.int q), .val (.int (1 : Int32)), .val (.int (1 : Int32)), .val (.long s0), .second, .val (.long s1), .second, .val (.int c0), .val (.int c1), .val (.ref ga), .val (.ref sa), .val (.ref ca), .val (.int (own_dim g0 s0 c0)), .unset]) (pc' := 267) at_265 rfl rfl ?_
  refine Wp.goto (pc' := 300) at_267 (by decide) (by decide) ?_
  refine Wp.aload (pc' := 302) at_300 rfl rfl rfl ?_
  refine Wp.aload (pc' := 304) at_302 rfl rfl rfl ?_
  refine Wp.aload (pc' := 306) at_304 rfl rfl rfl ?_
  have O10 : Hp h9 n0 [(sa, ArC Z k3 .long [(.long s0)]), (ca, ArC Z k5 .int [(.int c0)]), (ga, ArC Z k1 .long [(.long g0)])] := Hp.front (LA := [_]) O9
  have O11 : Hp h9 n0 [(ga, ArC Z k1 .long [(.long g0)]), (sa, ArC Z k3 .long [(.long s0)]), (ca, ArC Z k5 .int [(.int c0)])] := Hp.front (LA := [_, _]) O10
  refine Wp.callS (yy := (⟨"com/example/keyed_tensor/keyedtensor/array/Dataset", "isInGrid", "([J[J[I)Z"⟩ : MethodName)) (pc' := 309) (argsL := [(.ref ga), (.ref sa), (.ref ca)]) (S := []) (rm_in l Z a0 hw ga sa ca k1 k3 k5 [(.long g0)] [(.long s0)] [(.int c0)] (own_f2 g0 g1) (own_f2 s0 s1) (own_c2 c0 c1) 1 (by omega) h9 n0 O11 rfl rfl (by intro j hj; obtain rfl : j = 0 := (by omega); rfl) (by intro j hj; obtain rfl : j = 0 := (by omega); rfl) (by intro j hj; obtain rfl : j = 0 := (by omega); rfl) (own_cz hc0 hc1 1)) (hw _ (List.mem_of_getElem? (i := 8) rfl)) (hw _ (List.mem_of_getElem? (i := 9) rfl)) (hw _ (List.mem_of_getElem? (i := 10) rfl)) (hw _ (List.mem_of_getElem? (i := 11) rfl)) (by decide) (W := 0) rfl (lenOf pd_2 rfl) rfl rfl (Nat.le_refl 0) (by decide) (by decide) (by decide) (by decide) at_306 rfl ?_
  rintro _ _ ⟨rfl, rfl⟩
  show Wp _ _ _ _ _ _ _ _ _ _ _ _ 309 #[.val (.long g0), .second, .val (.long r0), .second, .val (.int r2), .val (.long g1), .second, .val (.long r1), .second, .val (.int mode), .val (.int q), .val (.int (1 : Int32)), .val (.int (1 : Int32)), .val (.long s0), .second, .val (.long s1), .second, .val (.int c0), .val (.int c1), .val (.ref ga), .val (.ref sa), .val (.ref ca), .val (.int (own_dim g0 s0 c0)), .unset] [(.int (own_in (own_f2 g0 g1) (own_f2 s0 s1) (own_c2 c0 c1) 1 0))]
  refine Wp.istore (L' := #[.val (.long g0), .second, .val (.long r0), .second, .val (.int r2), .val (.long g1), .second, .val (.long r1), .second, .val (.int mode), .val (.int q), .val (.int (1 : Int32)), .val (.int (1 : Int32)), .val (.long s0), .second, .val (.long s1), .second, .val (.int c0), .val (.int c1), .val (.ref ga), .val (.ref sa), .val (.ref ca), .val (.int (own_dim g0 s0 c0)), .val (.int (own_in (own_f2 g0 g1) (own_f2 s0 s1) (own_c2 c0 c1) 1 0))]) (pc' := 311) at_309 rfl rfl ?_
  refine Wp.iload (pc' := 313) at_311 rfl rfl ?_
  refine Wp.iload (pc' := 315) at_313 rfl rfl ?_
  refine Wp.icmpN (pc' := 318) at_315 (not_not_intro (own_in1 hs0 hc0)) rfl ?_
  refine Wp.iconst (z := (1 : Int32)) (pc' := 319) at_318 (by decide) rfl ?_
  refine Wp.goto (pc' := 323) at_319 (by decide) (by decide) ?_
  exact Wp.retS (t := .boolean) rfl (Or.inl rfl) rfl at_323 (by decide) (by decide) rfl

set_option maxRecDepth 65536 in
set_option maxHeartbeats 40000000 in
theorem tl_22 (l : Launch) (Z : State) (a0 : Array Value) (hw : ∀ d ∈ tables_1, d.before a0 Z = true) (g0 g1 r0 r1 s0 s1 : Int64) (r2 mode q c0 c1 : Int32) (hs0 : 0 ≤ s0.toInt) (hs1 : 0 ≤ s1.toInt) (hc0 : 0 < c0.toInt) (hc1 : 0 < c1.toInt) (h : Heap) (n0 : Nat) (O : Hp h n0 []) :
    Wp l Z room_1 x code maxLocals ret n0 (fun v _ => v = some (.int 1)) h 0 0 152 #[.val (.long g0), .second, .val (.long r0), .second, .val (.int r2), .val (.long g1), .second, .val (.long r1), .second, .val (.int mode), .val (.int q), .val (.int (2 : Int32)), .val (.int (2 : Int32)), .val (.long s0), .second, .val (.long s1), .second, .val (.int c0), .val (.int c1), .unset, .unset, .unset, .unset, .unset] [] := by
  refine Wp.iload (pc' := 154) at_152 rfl rfl ?_
  refine Wp.newarr (m := 2) (cap := 2) (pc' := 156) O (hw _ (List.mem_of_getElem? (i := 6) rfl)) at_154 (by decide) rfl (Nat.le_refl _) (by decide) (by decide) (by decide) rfl ?_
  intro h2 ga k1 O2
  have O2 : Hp h2 n0 [(ga, ArC Z k1 .long [(.long (0 : Int64)), (.long (0 : Int64))])] := O2
  refine Wp.astore (L' := #[.val (.long g0), .second, .val (.long r0), .second, .val (.int r2), .val (.long g1), .second, .val (.long r1), .second, .val (.int mode), .val (.int q), .val (.int (2 : Int32)), .val (.int (2 : Int32)), .val (.long s0), .second, .val (.long s1), .second, .val (.int c0), .val (.int c1), .val (.ref ga), .unset, .unset, .unset, .unset]) (pc' := 158) at_156 rfl rfl rfl ?_
  refine Wp.iload (pc' := 160) at_158 rfl rfl ?_
  refine Wp.newarr (m := 2) (cap := 2) (pc' := 162) O2 (hw _ (List.mem_of_getElem? (i := 6) rfl)) at_160 (by decide) rfl (Nat.le_refl _) (by decide) (by decide) (by decide) rfl ?_
  intro h4 sa k3 O4
  have O4 : Hp h4 n0 [(sa, ArC Z k3 .long [(.long (0 : Int64)), (.long (0 : Int64))]), (ga, ArC Z k1 .long [(.long (0 : Int64)), (.long (0 : Int64))])] := O4
  refine Wp.astore (L' := #[.val (.long g0), .second, .val (.long r0), .second, .val (.int r2), .val (.long g1), .second, .val (.long r1), .second, .val (.int mode), .val (.int q), .val (.int (2 : Int32)), .val (.int (2 : Int32)), .val (.long s0), .second, .val (.long s1), .second, .val (.int c0), .val (.int c1), .val (.ref ga), .val (.ref sa), .unset, .unset, .unset]) (pc' := 164) at_162 rfl rfl rfl ?_
  refine Wp.iload (pc' := 166) at_164 rfl rfl ?_
  refine Wp.newarr (m := 2) (cap := 2) (pc' := 168) O4 (hw _ (List.mem_of_getElem? (i := 7) rfl)) at_166 (by decide) rfl (Nat.le_refl _) (by decide) (by decide) (by decide) rfl ?_
  intro h6 ca k5 O6
  have O6 : Hp h6 n0 [(ca, ArC Z k5 .int [(.int (0 : Int32)), (.int (0 : Int32))]), (sa, ArC Z k3 .long [(.long (0 : Int64)), (.long (0 : Int64))]), (ga, ArC Z k1 .long [(.long (0 : Int64)), (.long (0 : Int64))])] := O6
  refine Wp.astore (L' := #[.val (.long g0), .second, .val (.long r0), .second, .val (.int r2), .val (.long g1), .second, .val (.long r1), .second, .val (.int mode), .val (.int q), .val (.int (2 : Int32)), .val (.int (2 : Int32)), .val (.long s0), .second, .val (.long s1), .second, .val (.int c0), .val (.int c1), .val (.ref ga), .val (.ref sa), .val (.ref ca), .unset, .unset]) (pc' := 170) at_168 rfl rfl rfl ?_
  refine Wp.iload (pc' := 172) at_170 rfl rfl ?_
  refine Wp.ifN (pc' := 175) at_172 (not_not_intro (by decide)) rfl ?_
  refine Wp.aload (pc' := 177) at_175 rfl rfl rfl ?_
  refine Wp.iconst (z := (0 : Int32)) (pc' := 178) at_177 (by decide) rfl ?_
  refine Wp.lloadN (pc' := 179) at_178 rfl rfl ?_
  refine Wp.lastore (LA := [_, _]) (jn := 0) (pc' := 180) O6 at_179 (by decide) rfl (by first | decide | simp) rfl ?_
  intro h7 O7
  have O7 : Hp h7 n0 [(ca, ArC Z k5 .int [(.int (0 : Int32)), (.int (0 : Int32))]), (sa, ArC Z k3 .long [(.long (0 : Int64)), (.long (0 : Int64))]), (ga, ArC Z k1 .long [(.long g0), (.long (0 : Int64))])] := O7
  refine Wp.iload (pc' := 182) at_180 rfl rfl ?_
  refine Wp.iconst (z := (1 : Int32)) (pc' := 183) at_182 (by decide) rfl ?_
  refine Wp.icmpN (pc' := 186) at_183 (not_not_intro (by decide)) rfl ?_
  refine Wp.aload (pc' := 188) at_186 rfl rfl rfl ?_
  refine Wp.iconst (z := (1 : Int32)) (pc' := 189) at_188 (by decide) rfl ?_
  refine Wp.lload (pc' := 191) at_189 rfl rfl ?_
  refine Wp.lastore (LA := [_, _]) (jn := 1) (pc' := 192) O7 at_191 (by decide) rfl (by first | decide | simp) rfl ?_
  intro h8 O8
  have O8 : Hp h8 n0 [(ca, ArC Z k5 .int [(.int (0 : Int32)), (.int (0 : Int32))]), (sa, ArC Z k3 .long [(.long (0 : Int64)), (.long (0 : Int64))]), (ga, ArC Z k1 .long [(.long g0), (.long g1)])] := O8
  refine Wp.iload (pc' := 194) at_192 rfl rfl ?_
  refine Wp.ifN (pc' := 197) at_194 (not_not_intro (by decide)) rfl ?_
  refine Wp.aload (pc' := 199) at_197 rfl rfl rfl ?_
  refine Wp.iconst (z := (0 : Int32)) (pc' := 200) at_199 (by decide) rfl ?_
  refine Wp.lload (pc' := 202) at_200 rfl rfl ?_
  refine Wp.lastore (LA := [_]) (jn := 0) (pc' := 203) O8 at_202 (by decide) rfl (by first | decide | simp) rfl ?_
  intro h9 O9
  have O9 : Hp h9 n0 [(ca, ArC Z k5 .int [(.int (0 : Int32)), (.int (0 : Int32))]), (sa, ArC Z k3 .long [(.long s0), (.long (0 : Int64))]), (ga, ArC Z k1 .long [(.long g0), (.long g1)])] := O9
  refine Wp.aload (pc' := 205) at_203 rfl rfl rfl ?_
  refine Wp.iconst (z := (0 : Int32)) (pc' := 206) at_205 (by decide) rfl ?_
  refine Wp.iload (pc' := 208) at_206 rfl rfl ?_
  refine Wp.iastore (LA := []) (jn := 0) (pc' := 209) O9 at_208 (by decide) rfl (by first | decide | simp) rfl ?_
  intro h10 O10
  have O10 : Hp h10 n0 [(ca, ArC Z k5 .int [(.int c0), (.int (0 : Int32))]), (sa, ArC Z k3 .long [(.long s0), (.long (0 : Int64))]), (ga, ArC Z k1 .long [(.long g0), (.long g1)])] := O10
  refine Wp.iload (pc' := 211) at_209 rfl rfl ?_
  refine Wp.iconst (z := (1 : Int32)) (pc' := 212) at_211 (by decide) rfl ?_
  refine Wp.icmpN (pc' := 215) at_212 (not_not_intro (by decide)) rfl ?_
  refine Wp.aload (pc' := 217) at_215 rfl rfl rfl ?_
  refine Wp.iconst (z := (1 : Int32)) (pc' := 218) at_217 (by decide) rfl ?_
  refine Wp.lload (pc' := 220) at_218 rfl rfl ?_
  refine Wp.lastore (LA := [_]) (jn := 1) (pc' := 221) O10 at_220 (by decide) rfl (by first | decide | simp) rfl ?_
  intro h11 O11
  have O11 : Hp h11 n0 [(ca, ArC Z k5 .int [(.int c0), (.int (0 : Int32))]), (sa, ArC Z k3 .long [(.long s0), (.long s1)]), (ga, ArC Z k1 .long [(.long g0), (.long g1)])] := O11
  refine Wp.aload (pc' := 223) at_221 rfl rfl rfl ?_
  refine Wp.iconst (z := (1 : Int32)) (pc' := 224) at_223 (by decide) rfl ?_
  refine Wp.iload (pc' := 226) at_224 rfl rfl ?_
  refine Wp.iastore (LA := []) (jn := 1) (pc' := 227) O11 at_226 (by decide) rfl (by first | decide | simp) rfl ?_
  intro h12 O12
  have O12 : Hp h12 n0 [(ca, ArC Z k5 .int [(.int c0), (.int c1)]), (sa, ArC Z k3 .long [(.long s0), (.long s1)]), (ga, ArC Z k1 .long [(.long g0), (.long g1)])] := O12
  refine Wp.iload (pc' := 229) at_227 rfl rfl ?_
  refine Wp.iload (pc' := 231) at_229 rfl rfl ?_
  refine Wp.icmpY (pc' := 240) at_231 (by decide) (by decide) (by decide) ?_
  refine Wp.iload (pc' := 242) at_240 rfl rfl ?_
  refine Wp.ifY (pc' := 251) at_242 (by decide) (by decide) (by decide) ?_
  refine Wp.iload (pc' := 253) at_251 rfl rfl ?_
  refine Wp.iconst (z := (1 : Int32)) (pc' := 254) at_253 (by decide) rfl ?_
  refine Wp.icmpY (pc' := 270) at_254 (by decide) (by decide) (by decide) ?_
  refine Wp.lloadN (pc' := 271) at_270 rfl rfl ?_
  refine Wp.lload (pc' := 273) at_271 rfl rfl ?_
  refine Wp.iload (pc' := 275) at_273 rfl rfl ?_
  refine Wp.callS (yy := (⟨"com/example/keyed_tensor/keyedtensor/array/DatasetIsInGridPinLaw", "inDim", "(JJI)Z"⟩ : MethodName)) (pc' := 278) (argsL := [(.long g0), (.long s0), (.int c0)]) (S := []) (rm_dim l Z a0 hw g0 s0 c0 (own_c64 hc0).2.1 h12 n0) (hw _ (List.mem_of_getElem? (i := 12) rfl)) (hw _ (List.mem_of_getElem? (i := 13) rfl)) (hw _ (List.mem_of_getElem? (i := 14) rfl)) (hw _ (List.mem_of_getElem? (i := 15) rfl)) (by decide) (W := 0) rfl (lenOf pd_1 rfl) rfl rfl (Nat.le_refl 0) (by decide) (by decide) (by decide) (by decide) at_275 rfl ?_
  rintro _ _ ⟨rfl, rfl⟩
  show Wp _ _ _ _ _ _ _ _ _ _ _ _ 278 #[.val (.long g0), .second, .val (.long r0), .second, .val (.int r2), .val (.long g1), .second, .val (.long r1), .second, .val (.int mode), .val (.int q), .val (.int (2 : Int32)), .val (.int (2 : Int32)), .val (.long s0), .second, .val (.long s1), .second, .val (.int c0), .val (.int c1), .val (.ref ga), .val (.ref sa), .val (.ref ca), .unset, .unset] [(.int (own_dim g0 s0 c0))]
  by_cases c278 : (own_dim g0 s0 c0) = 0
  · refine Wp.ifY (pc' := 297) at_278 c278 (by decide) (by decide) ?_
    refine Wp.iconst (z := (0 : Int32)) (pc' := 298) at_297 (by decide) rfl ?_
    refine Wp.istore (L' := #[.val (.long g0), .second, .val (.long r0), .second, .val (.int r2), .val (.long g1), .second, .val (.long r1), .second, .val (.int mode), .val (.int q), .val (.int (2 : Int32)), .val (.int (2 : Int32)), .val (.long s0), .second, .val (.long s1), .second, .val (.int c0), .val (.int c1), .val (.ref ga), .val (.ref sa), .val (.ref ca), .val (.int (0 : Int32)), .unset]) (pc' := 300) at_298 rfl rfl ?_
    refine Wp.aload (pc' := 302) at_300 rfl rfl rfl ?_
    refine Wp.aload (pc' := 304) at_302 rfl rfl rfl ?_
    refine Wp.aload (pc' := 306) at_304 rfl rfl rfl ?_
    have O13 : Hp h12 n0 [(sa, ArC Z k3 .long [(.long s0), (.long s1)]), (ca, ArC Z k5 .int [(.int c0), (.int c1)]), (ga, ArC Z k1 .long [(.long g0), (.long g1)])] := Hp.front (LA := [_]) O12
    have O14 : Hp h12 n0 [(ga, ArC Z k1 .long [(.long g0), (.long g1)]), (sa, ArC Z k3 .long [(.long s0), (.long s1)]), (ca, ArC Z k5 .int [(.int c0), (.int c1)])] := Hp.front (LA := [_, _]) O13
    refine Wp.callS (yy := (⟨"com/example/keyed_tensor/keyedtensor/array/Dataset", "isInGrid", "([J[J[I)Z"⟩ : MethodName)) (pc' := 309) (argsL := [(.ref ga), (.ref sa), (.ref ca)]) (S := []) (rm_in l Z a0 hw ga sa ca k1 k3 k5 [(.long g0), (.long g1)] [(.long s0), (.long s1)] [(.int c0), (.int c1)] (own_f2 g0 g1) (own_f2 s0 s1) (own_c2 c0 c1) 2 (by omega) h12 n0 O14 rfl rfl (by intro j hj; rcases (show j = 0 ∨ j = 1 by omega) with rfl | rfl <;> rfl) (by intro j hj; rcases (show j = 0 ∨ j = 1 by omega) with rfl | rfl <;> rfl) (by intro j hj; rcases (show j = 0 ∨ j = 1 by omega) with rfl | rfl <;> rfl) (own_cz hc0 hc1 2)) (hw _ (List.mem_of_getElem? (i := 8) rfl)) (hw _ (List.mem_of_getElem? (i := 9) rfl)) (hw _ (List.mem_of_getElem? (i := 10) rfl)) (hw _ (List.mem_of_getElem? (i := 11) rfl)) (by decide) (W := 0) rfl (lenOf pd_2 rfl) rfl rfl (Nat.le_refl 0) (by decide) (by decide) (by decide) (by decide) at_306 rfl ?_
    rintro _ _ ⟨rfl, rfl⟩
    show Wp _ _ _ _ _ _ _ _ _ _ _ _ 309 #[.val (.long g0), .second, .val (.long r0), .second, .val (.int r2), .val (.long g1), .second, .val (.long r1), .second, .val (.int mode), .val (.int q), .val (.int (2 : Int32)), .val (.int (2 : Int32)), .val (.long s0), .second, .val (.long s1), .second, .val (.int c0), .val (.int c1), .val (.ref ga), .val (.ref sa), .val (.ref ca), .val (.int (0 : Int32)), .unset] [(.int (own_in (own_f2 g0 g1) (own_f2 s0 s1) (own_c2 c0 c1) 2 0))]
    refine Wp.istore (L' := #[.val (.long g0), .second, .val (.long r0), .second, .val (.int r2), .val (.long g1), .second, .val (.long r1), .second, .val (.int mode), .val (.int q), .val (.int (2 : Int32)), .val (.int (2 : Int32)), .val (.long s0), .second, .val (.long s1), .second, .val (.int c0), .val (.int c1), .val (.ref ga), .val (.ref sa), .val (.ref ca), .val (.int (0 : Int32)), .val (.int (own_in (own_f2 g0 g1) (own_f2 s0 s1) (own_c2 c0 c1) 2 0))]) (pc' := 311) at_309 rfl rfl ?_
    refine Wp.iload (pc' := 313) at_311 rfl rfl ?_
    refine Wp.iload (pc' := 315) at_313 rfl rfl ?_
    refine Wp.icmpN (pc' := 318) at_315 (not_not_intro (by rw [own_in2 hs0 hc0 hs1 hc1, if_pos c278])) rfl ?_
    refine Wp.iconst (z := (1 : Int32)) (pc' := 319) at_318 (by decide) rfl ?_
    refine Wp.goto (pc' := 323) at_319 (by decide) (by decide) ?_
    exact Wp.retS (t := .boolean) rfl (Or.inl rfl) rfl at_323 (by decide) (by decide) rfl
  · refine Wp.ifN (pc' := 281) at_278 c278 rfl ?_
    refine Wp.lload (pc' := 283) at_281 rfl rfl ?_
    refine Wp.lload (pc' := 285) at_283 rfl rfl ?_
    refine Wp.iload (pc' := 287) at_285 rfl rfl ?_
    refine Wp.callS (yy := (⟨"com/example/keyed_tensor/keyedtensor/array/DatasetIsInGridPinLaw", "inDim", "(JJI)Z"⟩ : MethodName)) (pc' := 290) (argsL := [(.long g1), (.long s1), (.int c1)]) (S := []) (rm_dim l Z a0 hw g1 s1 c1 (own_c64 hc1).2.1 h12 n0) (hw _ (List.mem_of_getElem? (i := 12) rfl)) (hw _ (List.mem_of_getElem? (i := 13) rfl)) (hw _ (List.mem_of_getElem? (i := 14) rfl)) (hw _ (List.mem_of_getElem? (i := 15) rfl)) (by decide) (W := 0) rfl (lenOf pd_1 rfl) rfl rfl (Nat.le_refl 0) (by decide) (by decide) (by decide) (by decide) at_287 rfl ?_
    rintro _ _ ⟨rfl, rfl⟩
    show Wp _ _ _ _ _ _ _ _ _ _ _ _ 290 #[.val (.long g0), .second, .val (.long r0), .second, .val (.int r2), .val (.long g1), .second, .val (.long r1), .second, .val (.int mode), .val (.int q), .val (.int (2 : Int32)), .val (.int (2 : Int32)), .val (.long s0), .second, .val (.long s1), .second, .val (.int c0), .val (.int c1), .val (.ref ga), .val (.ref sa), .val (.ref ca), .unset, .unset] [(.int (own_dim g1 s1 c1))]
    by_cases c290 : (own_dim g1 s1 c1) = 0
    · refine Wp.ifY (pc' := 297) at_290 c290 (by decide) (by decide) ?_
      refine Wp.iconst (z := (0 : Int32)) (pc' := 298) at_297 (by decide) rfl ?_
      refine Wp.istore (L' := #[.val (.long g0), .second, .val (.long r0), .second, .val (.int r2), .val (.long g1), .second, .val (.long r1), .second, .val (.int mode), .val (.int q), .val (.int (2 : Int32)), .val (.int (2 : Int32)), .val (.long s0), .second, .val (.long s1), .second, .val (.int c0), .val (.int c1), .val (.ref ga), .val (.ref sa), .val (.ref ca), .val (.int (0 : Int32)), .unset]) (pc' := 300) at_298 rfl rfl ?_
      refine Wp.aload (pc' := 302) at_300 rfl rfl rfl ?_
      refine Wp.aload (pc' := 304) at_302 rfl rfl rfl ?_
      refine Wp.aload (pc' := 306) at_304 rfl rfl rfl ?_
      have O15 : Hp h12 n0 [(sa, ArC Z k3 .long [(.long s0), (.long s1)]), (ca, ArC Z k5 .int [(.int c0), (.int c1)]), (ga, ArC Z k1 .long [(.long g0), (.long g1)])] := Hp.front (LA := [_]) O12
      have O16 : Hp h12 n0 [(ga, ArC Z k1 .long [(.long g0), (.long g1)]), (sa, ArC Z k3 .long [(.long s0), (.long s1)]), (ca, ArC Z k5 .int [(.int c0), (.int c1)])] := Hp.front (LA := [_, _]) O15
      refine Wp.callS (yy := (⟨"com/example/keyed_tensor/keyedtensor/array/Dataset", "isInGrid", "([J[J[I)Z"⟩ : MethodName)) (pc' := 309) (argsL := [(.ref ga), (.ref sa), (.ref ca)]) (S := []) (rm_in l Z a0 hw ga sa ca k1 k3 k5 [(.long g0), (.long g1)] [(.long s0), (.long s1)] [(.int c0), (.int c1)] (own_f2 g0 g1) (own_f2 s0 s1) (own_c2 c0 c1) 2 (by omega) h12 n0 O16 rfl rfl (by intro j hj; rcases (show j = 0 ∨ j = 1 by omega) with rfl | rfl <;> rfl) (by intro j hj; rcases (show j = 0 ∨ j = 1 by omega) with rfl | rfl <;> rfl) (by intro j hj; rcases (show j = 0 ∨ j = 1 by omega) with rfl | rfl <;> rfl) (own_cz hc0 hc1 2)) (hw _ (List.mem_of_getElem? (i := 8) rfl)) (hw _ (List.mem_of_getElem? (i := 9) rfl)) (hw _ (List.mem_of_getElem? (i := 10) rfl)) (hw _ (List.mem_of_getElem? (i := 11) rfl)) (by decide) (W := 0) rfl (lenOf pd_2 rfl) rfl rfl (Nat.le_refl 0) (by decide) (by decide) (by decide) (by decide) at_306 rfl ?_
      rintro _ _ ⟨rfl, rfl⟩
      show Wp _ _ _ _ _ _ _ _ _ _ _ _ 309 #[.val (.long g0), .second, .val (.long r0), .second, .val (.int r2), .val (.long g1), .second, .val (.long r1), .second, .val (.int mode), .val (.int q), .val (.int (2 : Int32)), .val (.int (2 : Int32)), .val (.long s0), .second, .val (.long s1), .second, .val (.int c0), .val (.int c1), .val (.ref ga), .val (.ref sa), .val (.ref ca), .val (.int (0 : Int32)), .unset] [(.int (own_in (own_f2 g0 g1) (own_f2 s0 s1) (own_c2 c0 c1) 2 0))]
      refine Wp.istore (L' := #[.val (.long g0), .second, .val (.long r0), .second, .val (.int r2), .val (.long g1), .second, .val (.long r1), .second, .val (.int mode), .val (.int q), .val (.int (2 : Int32)), .val (.int (2 : Int32)), .val (.long s0), .second, .val (.long s1), .second, .val (.int c0), .val (.int c1), .val (.ref ga), .val (.ref sa), .val (.ref ca), .val (.int (0 : Int32)), .val (.int (own_in (own_f2 g0 g1) (own_f2 s0 s1) (own_c2 c0 c1) 2 0))]) (pc' := 311) at_309 rfl rfl ?_
      refine Wp.iload (pc' := 313) at_311 rfl rfl ?_
      refine Wp.iload (pc' := 315) at_313 rfl rfl ?_
      refine Wp.icmpN (pc' := 318) at_315 (not_not_intro (by rw [own_in2 hs0 hc0 hs1 hc1, if_neg c278, if_pos c290])) rfl ?_
      refine Wp.iconst (z := (1 : Int32)) (pc' := 319) at_318 (by decide) rfl ?_
      refine Wp.goto (pc' := 323) at_319 (by decide) (by decide) ?_
      exact Wp.retS (t := .boolean) rfl (Or.inl rfl) rfl at_323 (by decide) (by decide) rfl
    · refine Wp.ifN (pc' := 293) at_290 c290 rfl ?_
      refine Wp.iconst (z := (1 : Int32)) (pc' := 294) at_293 (by decide) rfl ?_
      refine Wp.goto (pc' := 298) at_294 (by decide) (by decide) ?_
      refine Wp.istore (L' := #[.val (.long g0), .second, .val (.long r0), .second, .val (.int r2), .val (.long g1), .second, .val (.long r1), .second, .val (.int mode), .val (.int q), .val (.int (2 : Int32)), .val (.int (2 : Int32)), .val (.long s0), .second, .val (.long s1), .second, .val (.int c0), .val (.int c1), .val (.ref ga), .val (.ref sa), .val (.ref ca), .val (.int (1 : Int32)), .unset]) (pc' := 300) at_298 rfl rfl ?_
      refine Wp.aload (pc' := 302) at_300 rfl rfl rfl ?_
      refine Wp.aload (pc' := 304) at_302 rfl rfl rfl ?_
      refine Wp.aload (pc' := 306) at_304 rfl rfl rfl ?_
      have O17 : Hp h12 n0 [(sa, ArC Z k3 .long [(.long s0), (.long s1)]), (ca, ArC Z k5 .int [(.int c0), (.int c1)]), (ga, ArC Z k1 .long [(.long g0), (.long g1)])] := Hp.front (LA := [_]) O12
      have O18 : Hp h12 n0 [(ga, ArC Z k1 .long [(.long g0), (.long g1)]), (sa, ArC Z k3 .long [(.long s0), (.long s1)]), (ca, ArC Z k5 .int [(.int c0), (.int c1)])] := Hp.front (LA := [_, _]) O17
      refine Wp.callS (yy := (⟨"com/example/keyed_tensor/keyedtensor/array/Dataset", "isInGrid", "([J[J[I)Z"⟩ : MethodName)) (pc' := 309) (argsL := [(.ref ga), (.ref sa), (.ref ca)]) (S := []) (rm_in l Z a0 hw ga sa ca k1 k3 k5 [(.long g0), (.long g1)] [(.long s0), (.long s1)] [(.int c0), (.int c1)] (own_f2 g0 g1) (own_f2 s0 s1) (own_c2 c0 c1) 2 (by omega) h12 n0 O18 rfl rfl (by intro j hj; rcases (show j = 0 ∨ j = 1 by omega) with rfl | rfl <;> rfl) (by intro j hj; rcases (show j = 0 ∨ j = 1 by omega) with rfl | rfl <;> rfl) (by intro j hj; rcases (show j = 0 ∨ j = 1 by omega) with rfl | rfl <;> rfl) (own_cz hc0 hc1 2)) (hw _ (List.mem_of_getElem? (i := 8) rfl)) (hw _ (List.mem_of_getElem? (i := 9) rfl)) (hw _ (List.mem_of_getElem? (i := 10) rfl)) (hw _ (List.mem_of_getElem? (i := 11) rfl)) (by decide) (W := 0) rfl (lenOf pd_2 rfl) rfl rfl (Nat.le_refl 0) (by decide) (by decide) (by decide) (by decide) at_306 rfl ?_
      rintro _ _ ⟨rfl, rfl⟩
      show Wp _ _ _ _ _ _ _ _ _ _ _ _ 309 #[.val (.long g0), .second, .val (.long r0), .second, .val (.int r2), .val (.long g1), .second, .val (.long r1), .second, .val (.int mode), .val (.int q), .val (.int (2 : Int32)), .val (.int (2 : Int32)), .val (.long s0), .second, .val (.long s1), .second, .val (.int c0), .val (.int c1), .val (.ref ga), .val (.ref sa), .val (.ref ca), .val (.int (1 : Int32)), .unset] [(.int (own_in (own_f2 g0 g1) (own_f2 s0 s1) (own_c2 c0 c1) 2 0))]
      refine Wp.istore (L' := #[.val (.long g0), .second, .val (.long r0), .second, .val (.int r2), .val (.long g1), .second, .val (.long r1), .second, .val (.int mode), .val (.int q), .val (.int (2 : Int32)), .val (.int (2 : Int32)), .val (.long s0), .second, .val (.long s1), .second, .val (.int c0), .val (.int c1), .val (.ref ga), .val (.ref sa), .val (.ref ca), .val (.int (1 : Int32)), .val (.int (own_in (own_f2 g0 g1) (own_f2 s0 s1) (own_c2 c0 c1) 2 0))]) (pc' := 311) at_309 rfl rfl ?_
      refine Wp.iload (pc' := 313) at_311 rfl rfl ?_
      refine Wp.iload (pc' := 315) at_313 rfl rfl ?_
      refine Wp.icmpN (pc' := 318) at_315 (not_not_intro (by rw [own_in2 hs0 hc0 hs1 hc1, if_neg c278, if_neg c290])) rfl ?_
      refine Wp.iconst (z := (1 : Int32)) (pc' := 319) at_318 (by decide) rfl ?_
      refine Wp.goto (pc' := 323) at_319 (by decide) (by decide) ?_
      exact Wp.retS (t := .boolean) rfl (Or.inl rfl) rfl at_323 (by decide) (by decide) rfl

set_option maxRecDepth 65536 in
set_option maxHeartbeats 40000000 in
theorem tl_21 (l : Launch) (Z : State) (a0 : Array Value) (hw : ∀ d ∈ tables_1, d.before a0 Z = true) (g0 g1 r0 r1 s0 s1 : Int64) (r2 mode q c0 c1 : Int32) (hs0 : 0 ≤ s0.toInt) (hs1 : 0 ≤ s1.toInt) (hc0 : 0 < c0.toInt) (hc1 : 0 < c1.toInt) (h : Heap) (n0 : Nat) (O : Hp h n0 []) :
    Wp l Z room_1 x code maxLocals ret n0 (fun v _ => v = some (.int 1)) h 0 0 152 #[.val (.long g0), .second, .val (.long r0), .second, .val (.int r2), .val (.long g1), .second, .val (.long r1), .second, .val (.int mode), .val (.int q), .val (.int (2 : Int32)), .val (.int (1 : Int32)), .val (.long s0), .second, .val (.long s1), .second, .val (.int c0), .val (.int c1), .unset, .unset, .unset, .unset, .unset] [] := by
  refine Wp.iload (pc' := 154) at_152 rfl rfl ?_
  refine Wp.newarr (m := 2) (cap := 2) (pc' := 156) O (hw _ (List.mem_of_getElem? (i := 6) rfl)) at_154 (by decide) rfl (Nat.le_refl _) (by decide) (by decide) (by decide) rfl ?_
  intro h2 ga k1 O2
  have O2 : Hp h2 n0 [(ga, ArC Z k1 .long [(.long (0 : Int64)), (.long (0 : Int64))])] := O2
  refine Wp.astore (L' := #[.val (.long g0), .second, .val (.long r0), .second, .val (.int r2), .val (.long g1), .second, .val (.long r1), .second, .val (.int mode), .val (.int q), .val (.int (2 : Int32)), .val (.int (1 : Int32)), .val (.long s0), .second, .val (.long s1), .second, .val (.int c0), .val (.int c1), .val (.ref ga), .unset, .unset, .unset, .unset]) (pc' := 158) at_156 rfl rfl rfl ?_
  refine Wp.iload (pc' := 160) at_158 rfl rfl ?_
  refine Wp.newarr (m := 1) (cap := 1) (pc' := 162) O2 (hw _ (List.mem_of_getElem? (i := 6) rfl)) at_160 (by decide) rfl (Nat.le_refl _) (by decide) (by decide) (by decide) rfl ?_
  intro h4 sa k3 O4
  have O4 : Hp h4 n0 [(sa, ArC Z k3 .long [(.long (0 : Int64))]), (ga, ArC Z k1 .long [(.long (0 : Int64)), (.long (0 : Int64))])] := O4
  refine Wp.astore (L' := #[.val (.long g0), .second, .val (.long r0), .second, .val (.int r2), .val (.long g1), .second, .val (.long r1), .second, .val (.int mode), .val (.int q), .val (.int (2 : Int32)), .val (.int (1 : Int32)), .val (.long s0), .second, .val (.long s1), .second, .val (.int c0), .val (.int c1), .val (.ref ga), .val (.ref sa), .unset, .unset, .unset]) (pc' := 164) at_162 rfl rfl rfl ?_
  refine Wp.iload (pc' := 166) at_164 rfl rfl ?_
  refine Wp.newarr (m := 1) (cap := 1) (pc' := 168) O4 (hw _ (List.mem_of_getElem? (i := 7) rfl)) at_166 (by decide) rfl (Nat.le_refl _) (by decide) (by decide) (by decide) rfl ?_
  intro h6 ca k5 O6
  have O6 : Hp h6 n0 [(ca, ArC Z k5 .int [(.int (0 : Int32))]), (sa, ArC Z k3 .long [(.long (0 : Int64))]), (ga, ArC Z k1 .long [(.long (0 : Int64)), (.long (0 : Int64))])] := O6
  refine Wp.astore (L' := #[.val (.long g0), .second, .val (.long r0), .second, .val (.int r2), .val (.long g1), .second, .val (.long r1), .second, .val (.int mode), .val (.int q), .val (.int (2 : Int32)), .val (.int (1 : Int32)), .val (.long s0), .second, .val (.long s1), .second, .val (.int c0), .val (.int c1), .val (.ref ga), .val (.ref sa), .val (.ref ca), .unset, .unset]) (pc' := 170) at_168 rfl rfl rfl ?_
  refine Wp.iload (pc' := 172) at_170 rfl rfl ?_
  refine Wp.ifN (pc' := 175) at_172 (not_not_intro (by decide)) rfl ?_
  refine Wp.aload (pc' := 177) at_175 rfl rfl rfl ?_
  refine Wp.iconst (z := (0 : Int32)) (pc' := 178) at_177 (by decide) rfl ?_
  refine Wp.lloadN (pc' := 179) at_178 rfl rfl ?_
  refine Wp.lastore (LA := [_, _]) (jn := 0) (pc' := 180) O6 at_179 (by decide) rfl (by first | decide | simp) rfl ?_
  intro h7 O7
  have O7 : Hp h7 n0 [(ca, ArC Z k5 .int [(.int (0 : Int32))]), (sa, ArC Z k3 .long [(.long (0 : Int64))]), (ga, ArC Z k1 .long [(.long g0), (.long (0 : Int64))])] := O7
  refine Wp.iload (pc' := 182) at_180 rfl rfl ?_
  refine Wp.iconst (z := (1 : Int32)) (pc' := 183) at_182 (by decide) rfl ?_
  refine Wp.icmpN (pc' := 186) at_183 (not_not_intro (by decide)) rfl ?_
  refine Wp.aload (pc' := 188) at_186 rfl rfl rfl ?_
  refine Wp.iconst (z := (1 : Int32)) (pc' := 189) at_188 (by decide) rfl ?_
  refine Wp.lload (pc' := 191) at_189 rfl rfl ?_
  refine Wp.lastore (LA := [_, _]) (jn := 1) (pc' := 192) O7 at_191 (by decide) rfl (by first | decide | simp) rfl ?_
  intro h8 O8
  have O8 : Hp h8 n0 [(ca, ArC Z k5 .int [(.int (0 : Int32))]), (sa, ArC Z k3 .long [(.long (0 : Int64))]), (ga, ArC Z k1 .long [(.long g0), (.long g1)])] := O8
  refine Wp.iload (pc' := 194) at_192 rfl rfl ?_
  refine Wp.ifN (pc' := 197) at_194 (not_not_intro (by decide)) rfl ?_
  refine Wp.aload (pc' := 199) at_197 rfl rfl rfl ?_
  refine Wp.iconst (z := (0 : Int32)) (pc' := 200) at_199 (by decide) rfl ?_
  refine Wp.lload (pc' := 202) at_200 rfl rfl ?_
  refine Wp.lastore (LA := [_]) (jn := 0) (pc' := 203) O8 at_202 (by decide) rfl (by first | decide | simp) rfl ?_
  intro h9 O9
  have O9 : Hp h9 n0 [(ca, ArC Z k5 .int [(.int (0 : Int32))]), (sa, ArC Z k3 .long [(.long s0)]), (ga, ArC Z k1 .long [(.long g0), (.long g1)])] := O9
  refine Wp.aload (pc' := 205) at_203 rfl rfl rfl ?_
  refine Wp.iconst (z := (0 : Int32)) (pc' := 206) at_205 (by decide) rfl ?_
  refine Wp.iload (pc' := 208) at_206 rfl rfl ?_
  refine Wp.iastore (LA := []) (jn := 0) (pc' := 209) O9 at_208 (by decide) rfl (by first | decide | simp) rfl ?_
  intro h10 O10
  have O10 : Hp h10 n0 [(ca, ArC Z k5 .int [(.int c0)]), (sa, ArC Z k3 .long [(.long s0)]), (ga, ArC Z k1 .long [(.long g0), (.long g1)])] := O10
  refine Wp.iload (pc' := 211) at_209 rfl rfl ?_
  refine Wp.iconst (z := (1 : Int32)) (pc' := 212) at_211 (by decide) rfl ?_
  refine Wp.icmpY (pc' := 227) at_212 (by decide) (by decide) (by decide) ?_
  refine Wp.iload (pc' := 229) at_227 rfl rfl ?_
  refine Wp.iload (pc' := 231) at_229 rfl rfl ?_
  refine Wp.icmpN (pc' := 234) at_231 (by decide) rfl ?_
  refine Wp.iconst (z := (0 : Int32)) (pc' := 235) at_234 (by decide) rfl ?_
  refine Wp.istore (L' := #[.val (.long g0), .second, .val (.long r0), .second, .val (.int r2), .val (.long g1), .second, .val (.long r1), .second, .val (.int mode), .val (.int q), .val (.int (2 : Int32)), .val (.int (1 : Int32)), .val (.long s0), .second, .val (.long s1), .second, .val (.int c0), .val (.int c1), .val (.ref ga), .val (.ref sa), .val (.ref ca), .val (.int (0 : Int32)), .unset]) (pc' := 237) at_235 rfl rfl ?_
  refine Wp.goto (pc' := 300) at_237 (by decide) (by decide) ?_
  refine Wp.aload (pc' := 302) at_300 rfl rfl rfl ?_
  refine Wp.aload (pc' := 304) at_302 rfl rfl rfl ?_
  refine Wp.aload (pc' := 306) at_304 rfl rfl rfl ?_
  have O11 : Hp h10 n0 [(sa, ArC Z k3 .long [(.long s0)]), (ca, ArC Z k5 .int [(.int c0)]), (ga, ArC Z k1 .long [(.long g0), (.long g1)])] := Hp.front (LA := [_]) O10
  have O12 : Hp h10 n0 [(ga, ArC Z k1 .long [(.long g0), (.long g1)]), (sa, ArC Z k3 .long [(.long s0)]), (ca, ArC Z k5 .int [(.int c0)])] := Hp.front (LA := [_, _]) O11
  refine Wp.callS (yy := (⟨"com/example/keyed_tensor/keyedtensor/array/Dataset", "isInGrid", "([J[J[I)Z"⟩ : MethodName)) (pc' := 309) (argsL := [(.ref ga), (.ref sa), (.ref ca)]) (S := []) (rm_ne l Z a0 hw ga sa ca k1 k3 k5 [(.long g0), (.long g1)] [(.long s0)] [(.int c0)] h10 n0 O12 (by simp only [List.length_cons, List.length_nil]; decide)) (hw _ (List.mem_of_getElem? (i := 8) rfl)) (hw _ (List.mem_of_getElem? (i := 9) rfl)) (hw _ (List.mem_of_getElem? (i := 10) rfl)) (hw _ (List.mem_of_getElem? (i := 11) rfl)) (by decide) (W := 0) rfl (lenOf pd_2 rfl) rfl rfl (Nat.le_refl 0) (by decide) (by decide) (by decide) (by decide) at_306 rfl ?_
  rintro _ _ ⟨rfl, rfl⟩
  show Wp _ _ _ _ _ _ _ _ _ _ _ _ 309 #[.val (.long g0), .second, .val (.long r0), .second, .val (.int r2), .val (.long g1), .second, .val (.long r1), .second, .val (.int mode), .val (.int q), .val (.int (2 : Int32)), .val (.int (1 : Int32)), .val (.long s0), .second, .val (.long s1), .second, .val (.int c0), .val (.int c1), .val (.ref ga), .val (.ref sa), .val (.ref ca), .val (.int (0 : Int32)), .unset] [(.int (0 : Int32))]
  refine Wp.istore (L' := #[.val (.long g0), .second, .val (.long r0), .second, .val (.int r2), .val (.long g1), .second, .val (.long r1), .second, .val (.int mode), .val (.int q), .val (.int (2 : Int32)), .val (.int (1 : Int32)), .val (.long s0), .second, .val (.long s1), .second, .val (.int c0), .val (.int c1), .val (.ref ga), .val (.ref sa), .val (.ref ca), .val (.int (0 : Int32)), .val (.int (0 : Int32))]) (pc' := 311) at_309 rfl rfl ?_
  refine Wp.iload (pc' := 313) at_311 rfl rfl ?_
  refine Wp.iload (pc' := 315) at_313 rfl rfl ?_
  refine Wp.icmpN (pc' := 318) at_315 (not_not_intro rfl) rfl ?_
  refine Wp.iconst (z := (1 : Int32)) (pc' := 319) at_318 (by decide) rfl ?_
  refine Wp.goto (pc' := 323) at_319 (by decide) (by decide) ?_
  exact Wp.retS (t := .boolean) rfl (Or.inl rfl) rfl at_323 (by decide) (by decide) rfl

set_option maxRecDepth 65536 in
set_option maxHeartbeats 40000000 in
theorem tl_12 (l : Launch) (Z : State) (a0 : Array Value) (hw : ∀ d ∈ tables_1, d.before a0 Z = true) (g0 g1 r0 r1 s0 s1 : Int64) (r2 mode q c0 c1 : Int32) (hs0 : 0 ≤ s0.toInt) (hs1 : 0 ≤ s1.toInt) (hc0 : 0 < c0.toInt) (hc1 : 0 < c1.toInt) (h : Heap) (n0 : Nat) (O : Hp h n0 []) :
    Wp l Z room_1 x code maxLocals ret n0 (fun v _ => v = some (.int 1)) h 0 0 152 #[.val (.long g0), .second, .val (.long r0), .second, .val (.int r2), .val (.long g1), .second, .val (.long r1), .second, .val (.int mode), .val (.int q), .val (.int (1 : Int32)), .val (.int (2 : Int32)), .val (.long s0), .second, .val (.long s1), .second, .val (.int c0), .val (.int c1), .unset, .unset, .unset, .unset, .unset] [] := by
  refine Wp.iload (pc' := 154) at_152 rfl rfl ?_
  refine Wp.newarr (m := 1) (cap := 1) (pc' := 156) O (hw _ (List.mem_of_getElem? (i := 6) rfl)) at_154 (by decide) rfl (Nat.le_refl _) (by decide) (by decide) (by decide) rfl ?_
  intro h2 ga k1 O2
  have O2 : Hp h2 n0 [(ga, ArC Z k1 .long [(.long (0 : Int64))])] := O2
  refine Wp.astore (L' := #[.val (.long g0), .second, .val (.long r0), .second, .val (.int r2), .val (.long g1), .second, .val (.long r1), .second, .val (.int mode), .val (.int q), .val (.int (1 : Int32)), .val (.int (2 : Int32)), .val (.long s0), .second, .val (.long s1), .second, .val (.int c0), .val (.int c1), .val (.ref ga), .unset, .unset, .unset, .unset]) (pc' := 158) at_156 rfl rfl rfl ?_
  refine Wp.iload (pc' := 160) at_158 rfl rfl ?_
  refine Wp.newarr (m := 2) (cap := 2) (pc' := 162) O2 (hw _ (List.mem_of_getElem? (i := 6) rfl)) at_160 (by decide) rfl (Nat.le_refl _) (by decide) (by decide) (by decide) rfl ?_
  intro h4 sa k3 O4
  have O4 : Hp h4 n0 [(sa, ArC Z k3 .long [(.long (0 : Int64)), (.long (0 : Int64))]), (ga, ArC Z k1 .long [(.long (0 : Int64))])] := O4
  refine Wp.astore (L' := #[.val (.long g0), .second, .val (.long r0), .second, .val (.int r2), .val (.long g1), .second, .val (.long r1), .second, .val (.int mode), .val (.int q), .val (.int (1 : Int32)), .val (.int (2 : Int32)), .val (.long s0), .second, .val (.long s1), .second, .val (.int c0), .val (.int c1), .val (.ref ga), .val (.ref sa), .unset, .unset, .unset]) (pc' := 164) at_162 rfl rfl rfl ?_
  refine Wp.iload (pc' := 166) at_164 rfl rfl ?_
  refine Wp.newarr (m := 2) (cap := 2) (pc' := 168) O4 (hw _ (List.mem_of_getElem? (i := 7) rfl)) at_166 (by decide) rfl (Nat.le_refl _) (by decide) (by decide) (by decide) rfl ?_
  intro h6 ca k5 O6
  have O6 : Hp h6 n0 [(ca, ArC Z k5 .int [(.int (0 : Int32)), (.int (0 : Int32))]), (sa, ArC Z k3 .long [(.long (0 : Int64)), (.long (0 : Int64))]), (ga, ArC Z k1 .long [(.long (0 : Int64))])] := O6
  refine Wp.astore (L' := #[.val (.long g0), .second, .val (.long r0), .second, .val (.int r2), .val (.long g1), .second, .val (.long r1), .second, .val (.int mode), .val (.int q), .val (.int (1 : Int32)), .val (.int (2 : Int32)), .val (.long s0), .second, .val (.long s1), .second, .val (.int c0), .val (.int c1), .val (.ref ga), .val (.ref sa), .val (.ref ca), .unset, .unset]) (pc' := 170) at_168 rfl rfl rfl ?_
  refine Wp.iload (pc' := 172) at_170 rfl rfl ?_
  refine Wp.ifN (pc' := 175) at_172 (not_not_intro (by decide)) rfl ?_
  refine Wp.aload (pc' := 177) at_175 rfl rfl rfl ?_
  refine Wp.iconst (z := (0 : Int32)) (pc' := 178) at_177 (by decide) rfl ?_
  refine Wp.lloadN (pc' := 179) at_178 rfl rfl ?_
  refine Wp.lastore (LA := [_, _]) (jn := 0) (pc' := 180) O6 at_179 (by decide) rfl (by first | decide | simp) rfl ?_
  intro h7 O7
  have O7 : Hp h7 n0 [(ca, ArC Z k5 .int [(.int (0 : Int32)), (.int (0 : Int32))]), (sa, ArC Z k3 .long [(.long (0 : Int64)), (.long (0 : Int64))]), (ga, ArC Z k1 .long [(.long g0)])] := O7
  refine Wp.iload (pc' := 182) at_180 rfl rfl ?_
  refine Wp.iconst (z := (1 : Int32)) (pc' := 183) at_182 (by decide) rfl ?_
  refine Wp.icmpY (pc' := 192) at_183 (by decide) (by decide) (by decide) ?_
  refine Wp.iload (pc' := 194) at_192 rfl rfl ?_
  refine Wp.ifN (pc' := 197) at_194 (not_not_intro (by decide)) rfl ?_
  refine Wp.aload (pc' := 199) at_197 rfl rfl rfl ?_
  refine Wp.iconst (z := (0 : Int32)) (pc' := 200) at_199 (by decide) rfl ?_
  refine Wp.lload (pc' := 202) at_200 rfl rfl ?_
  refine Wp.lastore (LA := [_]) (jn := 0) (pc' := 203) O7 at_202 (by decide) rfl (by first | decide | simp) rfl ?_
  intro h8 O8
  have O8 : Hp h8 n0 [(ca, ArC Z k5 .int [(.int (0 : Int32)), (.int (0 : Int32))]), (sa, ArC Z k3 .long [(.long s0), (.long (0 : Int64))]), (ga, ArC Z k1 .long [(.long g0)])] := O8
  refine Wp.aload (pc' := 205) at_203 rfl rfl rfl ?_
  refine Wp.iconst (z := (0 : Int32)) (pc' := 206) at_205 (by decide) rfl ?_
  refine Wp.iload (pc' := 208) at_206 rfl rfl ?_
  refine Wp.iastore (LA := []) (jn := 0) (pc' := 209) O8 at_208 (by decide) rfl (by first | decide | simp) rfl ?_
  intro h9 O9
  have O9 : Hp h9 n0 [(ca, ArC Z k5 .int [(.int c0), (.int (0 : Int32))]), (sa, ArC Z k3 .long [(.long s0), (.long (0 : Int64))]), (ga, ArC Z k1 .long [(.long g0)])] := O9
  refine Wp.iload (pc' := 211) at_209 rfl rfl ?_
  refine Wp.iconst (z := (1 : Int32)) (pc' := 212) at_211 (by decide) rfl ?_
  refine Wp.icmpN (pc' := 215) at_212 (not_not_intro (by decide)) rfl ?_
  refine Wp.aload (pc' := 217) at_215 rfl rfl rfl ?_
  refine Wp.iconst (z := (1 : Int32)) (pc' := 218) at_217 (by decide) rfl ?_
  refine Wp.lload (pc' := 220) at_218 rfl rfl ?_
  refine Wp.lastore (LA := [_]) (jn := 1) (pc' := 221) O9 at_220 (by decide) rfl (by first | decide | simp) rfl ?_
  intro h10 O10
  have O10 : Hp h10 n0 [(ca, ArC Z k5 .int [(.int c0), (.int (0 : Int32))]), (sa, ArC Z k3 .long [(.long s0), (.long s1)]), (ga, ArC Z k1 .long [(.long g0)])] := O10
  refine Wp.aload (pc' := 223) at_221 rfl rfl rfl ?_
  refine Wp.iconst (z := (1 : Int32)) (pc' := 224) at_223 (by decide) rfl ?_
  refine Wp.iload (pc' := 226) at_224 rfl rfl ?_
  refine Wp.iastore (LA := []) (jn := 1) (pc' := 227) O10 at_226 (by decide) rfl (by first | decide | simp) rfl ?_
  intro h11 O11
  have O11 : Hp h11 n0 [(ca, ArC Z k5 .int [(.int c0), (.int c1)]), (sa, ArC Z k3 .long [(.long s0), (.long s1)]), (ga, ArC Z k1 .long [(.long g0)])] := O11
  refine Wp.iload (pc' := 229) at_227 rfl rfl ?_
  refine Wp.iload (pc' := 231) at_229 rfl rfl ?_
  refine Wp.icmpN (pc' := 234) at_231 (by decide) rfl ?_
  refine Wp.iconst (z := (0 : Int32)) (pc' := 235) at_234 (by decide) rfl ?_
  refine Wp.istore (L' := #[.val (.long g0), .second, .val (.long r0), .second, .val (.int r2), .val (.long g1), .second, .val (.long r1), .second, .val (.int mode), .val (.int q), .val (.int (1 : Int32)), .val (.int (2 : Int32)), .val (.long s0), .second, .val (.long s1), .second, .val (.int c0), .val (.int c1), .val (.ref ga), .val (.ref sa), .val (.ref ca), .val (.int (0 : Int32)), .unset]) (pc' := 237) at_235 rfl rfl ?_
  refine Wp.goto (pc' := 300) at_237 (by decide) (by decide) ?_
  refine Wp.aload (pc' := 302) at_300 rfl rfl rfl ?_
  refine Wp.aload (pc' := 304) at_302 rfl rfl rfl ?_
  refine Wp.aload (pc' := 306) at_304 rfl rfl rfl ?_
  have O12 : Hp h11 n0 [(sa, ArC Z k3 .long [(.long s0), (.long s1)]), (ca, ArC Z k5 .int [(.int c0), (.int c1)]), (ga, ArC Z k1 .long [(.long g0)])] := Hp.front (LA := [_]) O11
  have O13 : Hp h11 n0 [(ga, ArC Z k1 .long [(.long g0)]), (sa, ArC Z k3 .long [(.long s0), (.long s1)]), (ca, ArC Z k5 .int [(.int c0), (.int c1)])] := Hp.front (LA := [_, _]) O12
  refine Wp.callS (yy := (⟨"com/example/keyed_tensor/keyedtensor/array/Dataset", "isInGrid", "([J[J[I)Z"⟩ : MethodName)) (pc' := 309) (argsL := [(.ref ga), (.ref sa), (.ref ca)]) (S := []) (rm_ne l Z a0 hw ga sa ca k1 k3 k5 [(.long g0)] [(.long s0), (.long s1)] [(.int c0), (.int c1)] h11 n0 O13 (by simp only [List.length_cons, List.length_nil]; decide)) (hw _ (List.mem_of_getElem? (i := 8) rfl)) (hw _ (List.mem_of_getElem? (i := 9) rfl)) (hw _ (List.mem_of_getElem? (i := 10) rfl)) (hw _ (List.mem_of_getElem? (i := 11) rfl)) (by decide) (W := 0) rfl (lenOf pd_2 rfl) rfl rfl (Nat.le_refl 0) (by decide) (by decide) (by decide) (by decide) at_306 rfl ?_
  rintro _ _ ⟨rfl, rfl⟩
  show Wp _ _ _ _ _ _ _ _ _ _ _ _ 309 #[.val (.long g0), .second, .val (.long r0), .second, .val (.int r2), .val (.long g1), .second, .val (.long r1), .second, .val (.int mode), .val (.int q), .val (.int (1 : Int32)), .val (.int (2 : Int32)), .val (.long s0), .second, .val (.long s1), .second, .val (.int c0), .val (.int c1), .val (.ref ga), .val (.ref sa), .val (.ref ca), .val (.int (0 : Int32)), .unset] [(.int (0 : Int32))]
  refine Wp.istore (L' := #[.val (.long g0), .second, .val (.long r0), .second, .val (.int r2), .val (.long g1), .second, .val (.long r1), .second, .val (.int mode), .val (.int q), .val (.int (1 : Int32)), .val (.int (2 : Int32)), .val (.long s0), .second, .val (.long s1), .second, .val (.int c0), .val (.int c1), .val (.ref ga), .val (.ref sa), .val (.ref ca), .val (.int (0 : Int32)), .val (.int (0 : Int32))]) (pc' := 311) at_309 rfl rfl ?_
  refine Wp.iload (pc' := 313) at_311 rfl rfl ?_
  refine Wp.iload (pc' := 315) at_313 rfl rfl ?_
  refine Wp.icmpN (pc' := 318) at_315 (not_not_intro rfl) rfl ?_
  refine Wp.iconst (z := (1 : Int32)) (pc' := 319) at_318 (by decide) rfl ?_
  refine Wp.goto (pc' := 323) at_319 (by decide) (by decide) ?_
  exact Wp.retS (t := .boolean) rfl (Or.inl rfl) rfl at_323 (by decide) (by decide) rfl

set_option maxRecDepth 65536 in
set_option maxHeartbeats 40000000 in
theorem tl_00 (l : Launch) (Z : State) (a0 : Array Value) (hw : ∀ d ∈ tables_1, d.before a0 Z = true) (g0 g1 r0 r1 s0 s1 : Int64) (r2 mode q c0 c1 : Int32) (hs0 : 0 ≤ s0.toInt) (hs1 : 0 ≤ s1.toInt) (hc0 : 0 < c0.toInt) (hc1 : 0 < c1.toInt) (h : Heap) (n0 : Nat) (O : Hp h n0 []) :
    Wp l Z room_1 x code maxLocals ret n0 (fun v _ => v = some (.int 1)) h 0 0 152 #[.val (.long g0), .second, .val (.long r0), .second, .val (.int r2), .val (.long g1), .second, .val (.long r1), .second, .val (.int mode), .val (.int q), .val (.int (0 : Int32)), .val (.int (0 : Int32)), .val (.long s0), .second, .val (.long s1), .second, .val (.int c0), .val (.int c1), .unset, .unset, .unset, .unset, .unset] [] := by
  refine Wp.iload (pc' := 154) at_152 rfl rfl ?_
  refine Wp.newarr (m := 0) (cap := 0) (pc' := 156) O (hw _ (List.mem_of_getElem? (i := 6) rfl)) at_154 (by decide) rfl (Nat.le_refl _) (by decide) (by decide) (by decide) rfl ?_
  intro h2 ga k1 O2
  have O2 : Hp h2 n0 [(ga, ArC Z k1 .long [])] := O2
  refine Wp.astore (L' := #[.val (.long g0), .second, .val (.long r0), .second, .val (.int r2), .val (.long g1), .second, .val (.long r1), .second, .val (.int mode), .val (.int q), .val (.int (0 : Int32)), .val (.int (0 : Int32)), .val (.long s0), .second, .val (.long s1), .second, .val (.int c0), .val (.int c1), .val (.ref ga), .unset, .unset, .unset, .unset]) (pc' := 158) at_156 rfl rfl rfl ?_
  refine Wp.iload (pc' := 160) at_158 rfl rfl ?_
  refine Wp.newarr (m := 0) (cap := 0) (pc' := 162) O2 (hw _ (List.mem_of_getElem? (i := 6) rfl)) at_160 (by decide) rfl (Nat.le_refl _) (by decide) (by decide) (by decide) rfl ?_
  intro h4 sa k3 O4
  have O4 : Hp h4 n0 [(sa, ArC Z k3 .long []), (ga, ArC Z k1 .long [])] := O4
  refine Wp.astore (L' := #[.val (.long g0), .second, .val (.long r0), .second, .val (.int r2), .val (.long g1), .second, .val (.long r1), .second, .val (.int mode), .val (.int q), .val (.int (0 : Int32)), .val (.int (0 : Int32)), .val (.long s0), .second, .val (.long s1), .second, .val (.int c0), .val (.int c1), .val (.ref ga), .val (.ref sa), .unset, .unset, .unset]) (pc' := 164) at_162 rfl rfl rfl ?_
  refine Wp.iload (pc' := 166) at_164 rfl rfl ?_
  refine Wp.newarr (m := 0) (cap := 0) (pc' := 168) O4 (hw _ (List.mem_of_getElem? (i := 7) rfl)) at_166 (by decide) rfl (Nat.le_refl _) (by decide) (by decide) (by decide) rfl ?_
  intro h6 ca k5 O6
  have O6 : Hp h6 n0 [(ca, ArC Z k5 .int []), (sa, ArC Z k3 .long []), (ga, ArC Z k1 .long [])] := O6
  refine Wp.astore (L' := #[.val (.long g0), .second, .val (.long r0), .second, .val (.int r2), .val (.long g1), .second, .val (.long r1), .second, .val (.int mode), .val (.int q), .val (.int (0 : Int32)), .val (.int (0 : Int32)), .val (.long s0), .second, .val (.long s1), .second, .val (.int c0), .val (.int c1), .val (.ref ga), .val (.ref sa), .val (.ref ca), .unset, .unset]) (pc' := 170) at_168 rfl rfl rfl ?_
  refine Wp.iload (pc' := 172) at_170 rfl rfl ?_
  refine Wp.ifY (pc' := 180) at_172 (by decide) (by decide) (by decide) ?_
  refine Wp.iload (pc' := 182) at_180 rfl rfl ?_
  refine Wp.iconst (z := (1 : Int32)) (pc' := 183) at_182 (by decide) rfl ?_
  refine Wp.icmpY (pc' := 192) at_183 (by decide) (by decide) (by decide) ?_
  refine Wp.iload (pc' := 194) at_192 rfl rfl ?_
  refine Wp.ifY (pc' := 209) at_194 (by decide) (by decide) (by decide) ?_
  refine Wp.iload (pc' := 211) at_209 rfl rfl ?_
  refine Wp.iconst (z := (1 : Int32)) (pc' := 212) at_211 (by decide) rfl ?_
  refine Wp.icmpY (pc' := 227) at_212 (by decide) (by decide) (by decide) ?_
  refine Wp.iload (pc' := 229) at_227 rfl rfl ?_
  refine Wp.iload (pc' := 231) at_229 rfl rfl ?_
  refine Wp.icmpY (pc' := 240) at_231 (by decide) (by decide) (by decide) ?_
  refine Wp.iload (pc' := 242) at_240 rfl rfl ?_
  refine Wp.ifN (pc' := 245) at_242 (not_not_intro rfl) rfl ?_
  refine Wp.iconst (z := (1 : Int32)) (pc' := 246) at_245 (by decide) rfl ?_
  refine Wp.istore (L' := #[.val (.long g0), .second, .val (.long r0), .second, .val (.int r2), .val (.long g1), .second, .val (.long r1), .second, .val (.int mode), .val (.int q), .val (.int (0 : Int32)), .val (.int (0 : Int32)), .val (.long s0), .second, .val (.long s1), .second, .val (.int c0), .val (.int c1), .val (.ref ga), .val (.ref sa), .val (.ref ca), .val (.int (1 : Int32)), .unset]) (pc' := 248) at_246 rfl rfl ?_
  refine Wp.goto (pc' := 300) at_248 (by decide) (by decide) ?_
  refine Wp.aload (pc' := 302) at_300 rfl rfl rfl ?_
  refine Wp.aload (pc' := 304) at_302 rfl rfl rfl ?_
  refine Wp.aload (pc' := 306) at_304 rfl rfl rfl ?_
  have O7 : Hp h6 n0 [(sa, ArC Z k3 .long []), (ca, ArC Z k5 .int []), (ga, ArC Z k1 .long [])] := Hp.front (LA := [_]) O6
  have O8 : Hp h6 n0 [(ga, ArC Z k1 .long []), (sa, ArC Z k3 .long []), (ca, ArC Z k5 .int [])] := Hp.front (LA := [_, _]) O7
  refine Wp.callS (yy := (⟨"com/example/keyed_tensor/keyedtensor/array/Dataset", "isInGrid", "([J[J[I)Z"⟩ : MethodName)) (pc' := 309) (argsL := [(.ref ga), (.ref sa), (.ref ca)]) (S := []) (rm_in l Z a0 hw ga sa ca k1 k3 k5 [] [] [] (own_f2 g0 g1) (own_f2 s0 s1) (own_c2 c0 c1) 0 (by omega) h6 n0 O8 rfl rfl (by intro j hj; exact absurd hj (Nat.not_lt_zero _)) (by intro j hj; exact absurd hj (Nat.not_lt_zero _)) (by intro j hj; exact absurd hj (Nat.not_lt_zero _)) (own_cz hc0 hc1 0)) (hw _ (List.mem_of_getElem? (i := 8) rfl)) (hw _ (List.mem_of_getElem? (i := 9) rfl)) (hw _ (List.mem_of_getElem? (i := 10) rfl)) (hw _ (List.mem_of_getElem? (i := 11) rfl)) (by decide) (W := 0) rfl (lenOf pd_2 rfl) rfl rfl (Nat.le_refl 0) (by decide) (by decide) (by decide) (by decide) at_306 rfl ?_
  rintro _ _ ⟨rfl, rfl⟩
  show Wp _ _ _ _ _ _ _ _ _ _ _ _ 309 #[.val (.long g0), .second, .val (.long r0), .second, .val (.int r2), .val (.long g1), .second, .val (.long r1), .second, .val (.int mode), .val (.int q), .val (.int (0 : Int32)), .val (.int (0 : Int32)), .val (.long s0), .second, .val (.long s1), .second, .val (.int c0), .val (.int c1), .val (.ref ga), .val (.ref sa), .val (.ref ca), .val (.int (1 : Int32)), .unset] [(.int (own_in (own_f2 g0 g1) (own_f2 s0 s1) (own_c2 c0 c1) 0 0))]
  refine Wp.istore (L' := #[.val (.long g0), .second, .val (.long r0), .second, .val (.int r2), .val (.long g1), .second, .val (.long r1), .second, .val (.int mode), .val (.int q), .val (.int (0 : Int32)), .val (.int (0 : Int32)), .val (.long s0), .second, .val (.long s1), .second, .val (.int c0), .val (.int c1), .val (.ref ga), .val (.ref sa), .val (.ref ca), .val (.int (1 : Int32)), .val (.int (own_in (own_f2 g0 g1) (own_f2 s0 s1) (own_c2 c0 c1) 0 0))]) (pc' := 311) at_309 rfl rfl ?_
  refine Wp.iload (pc' := 313) at_311 rfl rfl ?_
  refine Wp.iload (pc' := 315) at_313 rfl rfl ?_
  refine Wp.icmpN (pc' := 318) at_315 (not_not_intro rfl) rfl ?_
  refine Wp.iconst (z := (1 : Int32)) (pc' := 319) at_318 (by decide) rfl ?_
  refine Wp.goto (pc' := 323) at_319 (by decide) (by decide) ?_
  exact Wp.retS (t := .boolean) rfl (Or.inl rfl) rfl at_323 (by decide) (by decide) rfl

set_option maxRecDepth 65536 in
set_option maxHeartbeats 40000000 in
theorem tl_01 (l : Launch) (Z : State) (a0 : Array Value) (hw : ∀ d ∈ tables_1, d.before a0 Z = true) (g0 g1 r0 r1 s0 s1 : Int64) (r2 mode q c0 c1 : Int32) (hs0 : 0 ≤ s0.toInt) (hs1 : 0 ≤ s1.toInt) (hc0 : 0 < c0.toInt) (hc1 : 0 < c1.toInt) (h : Heap) (n0 : Nat) (O : Hp h n0 []) :
    Wp l Z room_1 x code maxLocals ret n0 (fun v _ => v = some (.int 1)) h 0 0 152 #[.val (.long g0), .second, .val (.long r0), .second, .val (.int r2), .val (.long g1), .second, .val (.long r1), .second, .val (.int mode), .val (.int q), .val (.int (0 : Int32)), .val (.int (1 : Int32)), .val (.long s0), .second, .val (.long s1), .second, .val (.int c0), .val (.int c1), .unset, .unset, .unset, .unset, .unset] [] := by
  refine Wp.iload (pc' := 154) at_152 rfl rfl ?_
  refine Wp.newarr (m := 0) (cap := 0) (pc' := 156) O (hw _ (List.mem_of_getElem? (i := 6) rfl)) at_154 (by decide) rfl (Nat.le_refl _) (by decide) (by decide) (by decide) rfl ?_
  intro h2 ga k1 O2
  have O2 : Hp h2 n0 [(ga, ArC Z k1 .long [])] := O2
  refine Wp.astore (L' := #[.val (.long g0), .second, .val (.long r0), .second, .val (.int r2), .val (.long g1), .second, .val (.long r1), .second, .val (.int mode), .val (.int q), .val (.int (0 : Int32)), .val (.int (1 : Int32)), .val (.long s0), .second, .val (.long s1), .second, .val (.int c0), .val (.int c1), .val (.ref ga), .unset, .unset, .unset, .unset]) (pc' := 158) at_156 rfl rfl rfl ?_
  refine Wp.iload (pc' := 160) at_158 rfl rfl ?_
  refine Wp.newarr (m := 1) (cap := 1) (pc' := 162) O2 (hw _ (List.mem_of_getElem? (i := 6) rfl)) at_160 (by decide) rfl (Nat.le_refl _) (by decide) (by decide) (by decide) rfl ?_
  intro h4 sa k3 O4
  have O4 : Hp h4 n0 [(sa, ArC Z k3 .long [(.long (0 : Int64))]), (ga, ArC Z k1 .long [])] := O4
  refine Wp.astore (L' := #[.val (.long g0), .second, .val (.long r0), .second, .val (.int r2), .val (.long g1), .second, .val (.long r1), .second, .val (.int mode), .val (.int q), .val (.int (0 : Int32)), .val (.int (1 : Int32)), .val (.long s0), .second, .val (.long s1), .second, .val (.int c0), .val (.int c1), .val (.ref ga), .val (.ref sa), .unset, .unset, .unset]) (pc' := 164) at_162 rfl rfl rfl ?_
  refine Wp.iload (pc' := 166) at_164 rfl rfl ?_
  refine Wp.newarr (m := 1) (cap := 1) (pc' := 168) O4 (hw _ (List.mem_of_getElem? (i := 7) rfl)) at_166 (by decide) rfl (Nat.le_refl _) (by decide) (by decide) (by decide) rfl ?_
  intro h6 ca k5 O6
  have O6 : Hp h6 n0 [(ca, ArC Z k5 .int [(.int (0 : Int32))]), (sa, ArC Z k3 .long [(.long (0 : Int64))]), (ga, ArC Z k1 .long [])] := O6
  refine Wp.astore (L' := #[.val (.long g0), .second, .val (.long r0), .second, .val (.int r2), .val (.long g1), .second, .val (.long r1), .second, .val (.int mode), .val (.int q), .val (.int (0 : Int32)), .val (.int (1 : Int32)), .val (.long s0), .second, .val (.long s1), .second, .val (.int c0), .val (.int c1), .val (.ref ga), .val (.ref sa), .val (.ref ca), .unset, .unset]) (pc' := 170) at_168 rfl rfl rfl ?_
  refine Wp.iload (pc' := 172) at_170 rfl rfl ?_
  refine Wp.ifY (pc' := 180) at_172 (by decide) (by decide) (by decide) ?_
  refine Wp.iload (pc' := 182) at_180 rfl rfl ?_
  refine Wp.iconst (z := (1 : Int32)) (pc' := 183) at_182 (by decide) rfl ?_
  refine Wp.icmpY (pc' := 192) at_183 (by decide) (by decide) (by decide) ?_
  refine Wp.iload (pc' := 194) at_192 rfl rfl ?_
  refine Wp.ifN (pc' := 197) at_194 (not_not_intro (by decide)) rfl ?_
  refine Wp.aload (pc' := 199) at_197 rfl rfl rfl ?_
  refine Wp.iconst (z := (0 : Int32)) (pc' := 200) at_199 (by decide) rfl ?_
  refine Wp.lload (pc' := 202) at_200 rfl rfl ?_
  refine Wp.lastore (LA := [_]) (jn := 0) (pc' := 203) O6 at_202 (by decide) rfl (by first | decide | simp) rfl ?_
  intro h7 O7
  have O7 : Hp h7 n0 [(ca, ArC Z k5 .int [(.int (0 : Int32))]), (sa, ArC Z k3 .long [(.long s0)]), (ga, ArC Z k1 .long [])] := O7
  refine Wp.aload (pc' := 205) at_203 rfl rfl rfl ?_
  refine Wp.iconst (z := (0 : Int32)) (pc' := 206) at_205 (by decide) rfl ?_
  refine Wp.iload (pc' := 208) at_206 rfl rfl ?_
  refine Wp.iastore (LA := []) (jn := 0) (pc' := 209) O7 at_208 (by decide) rfl (by first | decide | simp) rfl ?_
  intro h8 O8
  have O8 : Hp h8 n0 [(ca, ArC Z k5 .int [(.int c0)]), (sa, ArC Z k3 .long [(.long s0)]), (ga, ArC Z k1 .long [])] := O8
  refine Wp.iload (pc' := 211) at_209 rfl rfl ?_
  refine Wp.iconst (z := (1 : Int32)) (pc' := 212) at_211 (by decide) rfl ?_
  refine Wp.icmpY (pc' := 227) at_212 (by decide) (by decide) (by decide) ?_
  refine Wp.iload (pc' := 229) at_227 rfl rfl ?_
  refine Wp.iload (pc' := 231) at_229 rfl rfl ?_
  refine Wp.icmpN (pc' := 234) at_231 (by decide) rfl ?_
  refine Wp.iconst (z := (0 : Int32)) (pc' := 235) at_234 (by decide) rfl ?_
  refine Wp.istore (L' := #[.val (.long g0), .second, .val (.long r0), .second, .val (.int r2), .val (.long g1), .second, .val (.long r1), .second, .val (.int mode), .val (.int q), .val (.int (0 : Int32)), .val (.int (1 : Int32)), .val (.long s0), .second, .val (.long s1), .second, .val (.int c0), .val (.int c1), .val (.ref ga), .val (.ref sa), .val (.ref ca), .val (.int (0 : Int32)), .unset]) (pc' := 237) at_235 rfl rfl ?_
  refine Wp.goto (pc' := 300) at_237 (by decide) (by decide) ?_
  refine Wp.aload (pc' := 302) at_300 rfl rfl rfl ?_
  refine Wp.aload (pc' := 304) at_302 rfl rfl rfl ?_
  refine Wp.aload (pc' := 306) at_304 rfl rfl rfl ?_
  have O9 : Hp h8 n0 [(sa, ArC Z k3 .long [(.long s0)]), (ca, ArC Z k5 .int [(.int c0)]), (ga, ArC Z k1 .long [])] := Hp.front (LA := [_]) O8
  have O10 : Hp h8 n0 [(ga, ArC Z k1 .long []), (sa, ArC Z k3 .long [(.long s0)]), (ca, ArC Z k5 .int [(.int c0)])] := Hp.front (LA := [_, _]) O9
  refine Wp.callS (yy := (⟨"com/example/keyed_tensor/keyedtensor/array/Dataset", "isInGrid", "([J[J[I)Z"⟩ : MethodName)) (pc' := 309) (argsL := [(.ref ga), (.ref sa), (.ref ca)]) (S := []) (rm_ne l Z a0 hw ga sa ca k1 k3 k5 [] [(.long s0)] [(.int c0)] h8 n0 O10 (by simp only [List.length_cons, List.length_nil]; decide)) (hw _ (List.mem_of_getElem? (i := 8) rfl)) (hw _ (List.mem_of_getElem? (i := 9) rfl)) (hw _ (List.mem_of_getElem? (i := 10) rfl)) (hw _ (List.mem_of_getElem? (i := 11) rfl)) (by decide) (W := 0) rfl (lenOf pd_2 rfl) rfl rfl (Nat.le_refl 0) (by decide) (by decide) (by decide) (by decide) at_306 rfl ?_
  rintro _ _ ⟨rfl, rfl⟩
  show Wp _ _ _ _ _ _ _ _ _ _ _ _ 309 #[.val (.long g0), .second, .val (.long r0), .second, .val (.int r2), .val (.long g1), .second, .val (.long r1), .second, .val (.int mode), .val (.int q), .val (.int (0 : Int32)), .val (.int (1 : Int32)), .val (.long s0), .second, .val (.long s1), .second, .val (.int c0), .val (.int c1), .val (.ref ga), .val (.ref sa), .val (.ref ca), .val (.int (0 : Int32)), .unset] [(.int (0 : Int32))]
  refine Wp.istore (L' := #[.val (.long g0), .second, .val (.long r0), .second, .val (.int r2), .val (.long g1), .second, .val (.long r1), .second, .val (.int mode), .val (.int q), .val (.int (0 : Int32)), .val (.int (1 : Int32)), .val (.long s0), .second, .val (.long s1), .second, .val (.int c0), .val (.int c1), .val (.ref ga), .val (.ref sa), .val (.ref ca), .val (.int (0 : Int32)), .val (.int (0 : Int32))]) (pc' := 311) at_309 rfl rfl ?_
  refine Wp.iload (pc' := 313) at_311 rfl rfl ?_
  refine Wp.iload (pc' := 315) at_313 rfl rfl ?_
  refine Wp.icmpN (pc' := 318) at_315 (not_not_intro rfl) rfl ?_
  refine Wp.iconst (z := (1 : Int32)) (pc' := 319) at_318 (by decide) rfl ?_
  refine Wp.goto (pc' := 323) at_319 (by decide) (by decide) ?_
  exact Wp.retS (t := .boolean) rfl (Or.inl rfl) rfl at_323 (by decide) (by decide) rfl

set_option maxRecDepth 65536 in
set_option maxHeartbeats 40000000 in
theorem tl_10 (l : Launch) (Z : State) (a0 : Array Value) (hw : ∀ d ∈ tables_1, d.before a0 Z = true) (g0 g1 r0 r1 s0 s1 : Int64) (r2 mode q c0 c1 : Int32) (hs0 : 0 ≤ s0.toInt) (hs1 : 0 ≤ s1.toInt) (hc0 : 0 < c0.toInt) (hc1 : 0 < c1.toInt) (h : Heap) (n0 : Nat) (O : Hp h n0 []) :
    Wp l Z room_1 x code maxLocals ret n0 (fun v _ => v = some (.int 1)) h 0 0 152 #[.val (.long g0), .second, .val (.long r0), .second, .val (.int r2), .val (.long g1), .second, .val (.long r1), .second, .val (.int mode), .val (.int q), .val (.int (1 : Int32)), .val (.int (0 : Int32)), .val (.long s0), .second, .val (.long s1), .second, .val (.int c0), .val (.int c1), .unset, .unset, .unset, .unset, .unset] [] := by
  refine Wp.iload (pc' := 154) at_152 rfl rfl ?_
  refine Wp.newarr (m := 1) (cap := 1) (pc' := 156) O (hw _ (List.mem_of_getElem? (i := 6) rfl)) at_154 (by decide) rfl (Nat.le_refl _) (by decide) (by decide) (by decide) rfl ?_
  intro h2 ga k1 O2
  have O2 : Hp h2 n0 [(ga, ArC Z k1 .long [(.long (0 : Int64))])] := O2
  refine Wp.astore (L' := #[.val (.long g0), .second, .val (.long r0), .second, .val (.int r2), .val (.long g1), .second, .val (.long r1), .second, .val (.int mode), .val (.int q), .val (.int (1 : Int32)), .val (.int (0 : Int32)), .val (.long s0), .second, .val (.long s1), .second, .val (.int c0), .val (.int c1), .val (.ref ga), .unset, .unset, .unset, .unset]) (pc' := 158) at_156 rfl rfl rfl ?_
  refine Wp.iload (pc' := 160) at_158 rfl rfl ?_
  refine Wp.newarr (m := 0) (cap := 0) (pc' := 162) O2 (hw _ (List.mem_of_getElem? (i := 6) rfl)) at_160 (by decide) rfl (Nat.le_refl _) (by decide) (by decide) (by decide) rfl ?_
  intro h4 sa k3 O4
  have O4 : Hp h4 n0 [(sa, ArC Z k3 .long []), (ga, ArC Z k1 .long [(.long (0 : Int64))])] := O4
  refine Wp.astore (L' := #[.val (.long g0), .second, .val (.long r0), .second, .val (.int r2), .val (.long g1), .second, .val (.long r1), .second, .val (.int mode), .val (.int q), .val (.int (1 : Int32)), .val (.int (0 : Int32)), .val (.long s0), .second, .val (.long s1), .second, .val (.int c0), .val (.int c1), .val (.ref ga), .val (.ref sa), .unset, .unset, .unset]) (pc' := 164) at_162 rfl rfl rfl ?_
  refine Wp.iload (pc' := 166) at_164 rfl rfl ?_
  refine Wp.newarr (m := 0) (cap := 0) (pc' := 168) O4 (hw _ (List.mem_of_getElem? (i := 7) rfl)) at_166 (by decide) rfl (Nat.le_refl _) (by decide) (by decide) (by decide) rfl ?_
  intro h6 ca k5 O6
  have O6 : Hp h6 n0 [(ca, ArC Z k5 .int []), (sa, ArC Z k3 .long []), (ga, ArC Z k1 .long [(.long (0 : Int64))])] := O6
  refine Wp.astore (L' := #[.val (.long g0), .second, .val (.long r0), .second, .val (.int r2), .val (.long g1), .second, .val (.long r1), .second, .val (.int mode), .val (.int q), .val (.int (1 : Int32)), .val (.int (0 : Int32)), .val (.long s0), .second, .val (.long s1), .second, .val (.int c0), .val (.int c1), .val (.ref ga), .val (.ref sa), .val (.ref ca), .unset, .unset]) (pc' := 170) at_168 rfl rfl rfl ?_
  refine Wp.iload (pc' := 172) at_170 rfl rfl ?_
  refine Wp.ifN (pc' := 175) at_172 (not_not_intro (by decide)) rfl ?_
  refine Wp.aload (pc' := 177) at_175 rfl rfl rfl ?_
  refine Wp.iconst (z := (0 : Int32)) (pc' := 178) at_177 (by decide) rfl ?_
  refine Wp.lloadN (pc' := 179) at_178 rfl rfl ?_
  refine Wp.lastore (LA := [_, _]) (jn := 0) (pc' := 180) O6 at_179 (by decide) rfl (by first | decide | simp) rfl ?_
  intro h7 O7
  have O7 : Hp h7 n0 [(ca, ArC Z k5 .int []), (sa, ArC Z k3 .long []), (ga, ArC Z k1 .long [(.long g0)])] := O7
  refine Wp.iload (pc' := 182) at_180 rfl rfl ?_
  refine Wp.iconst (z := (1 : Int32)) (pc' := 183) at_182 (by decide) rfl ?_
  refine Wp.icmpY (pc' := 192) at_183 (by decide) (by decide) (by decide) ?_
  refine Wp.iload (pc' := 194) at_192 rfl rfl ?_
  refine Wp.ifY (pc' := 209) at_194 (by decide) (by decide) (by decide) ?_
  refine Wp.iload (pc' := 211) at_209 rfl rfl ?_
  refine Wp.iconst (z := (1 : Int32)) (pc' := 212) at_211 (by decide) rfl ?_
  refine Wp.icmpY (pc' := 227) at_212 (by decide) (by decide) (by decide) ?_
  refine Wp.iload (pc' := 229) at_227 rfl rfl ?_
  refine Wp.iload (pc' := 231) at_229 rfl rfl ?_
  refine Wp.icmpN (pc' := 234) at_231 (by decide) rfl ?_
  refine Wp.iconst (z := (0 : Int32)) (pc' := 235) at_234 (by decide) rfl ?_
  refine Wp.istore (L' := #[.val (.long g0), .second, .val (.long r0), .second, .val (.int r2), .val (.long g1), .second, .val (.long r1), .second, .val (.int mode), .val (.int q), .val (.int (1 : Int32)), .val (.int (0 : Int32)), .val (.long s0), .second, .val (.long s1), .second, .val (.int c0), .val (.int c1), .val (.ref ga), .val (.ref sa), .val (.ref ca), .val (.int (0 : Int32)), .unset]) (pc' := 237) at_235 rfl rfl ?_
  refine Wp.goto (pc' := 300) at_237 (by decide) (by decide) ?_
  refine Wp.aload (pc' := 302) at_300 rfl rfl rfl ?_
  refine Wp.aload (pc' := 304) at_302 rfl rfl rfl ?_
  refine Wp.aload (pc' := 306) at_304 rfl rfl rfl ?_
  have O8 : Hp h7 n0 [(sa, ArC Z k3 .long []), (ca, ArC Z k5 .int []), (ga, ArC Z k1 .long [(.long g0)])] := Hp.front (LA := [_]) O7
  have O9 : Hp h7 n0 [(ga, ArC Z k1 .long [(.long g0)]), (sa, ArC Z k3 .long []), (ca, ArC Z k5 .int [])] := Hp.front (LA := [_, _]) O8
  refine Wp.callS (yy := (⟨"com/example/keyed_tensor/keyedtensor/array/Dataset", "isInGrid", "([J[J[I)Z"⟩ : MethodName)) (pc' := 309) (argsL := [(.ref ga), (.ref sa), (.ref ca)]) (S := []) (rm_ne l Z a0 hw ga sa ca k1 k3 k5 [(.long g0)] [] [] h7 n0 O9 (by simp only [List.length_cons, List.length_nil]; decide)) (hw _ (List.mem_of_getElem? (i := 8) rfl)) (hw _ (List.mem_of_getElem? (i := 9) rfl)) (hw _ (List.mem_of_getElem? (i := 10) rfl)) (hw _ (List.mem_of_getElem? (i := 11) rfl)) (by decide) (W := 0) rfl (lenOf pd_2 rfl) rfl rfl (Nat.le_refl 0) (by decide) (by decide) (by decide) (by decide) at_306 rfl ?_
  rintro _ _ ⟨rfl, rfl⟩
  show Wp _ _ _ _ _ _ _ _ _ _ _ _ 309 #[.val (.long g0), .second, .val (.long r0), .second, .val (.int r2), .val (.long g1), .second, .val (.long r1), .second, .val (.int mode), .val (.int q), .val (.int (1 : Int32)), .val (.int (0 : Int32)), .val (.long s0), .second, .val (.long s1), .second, .val (.int c0), .val (.int c1), .val (.ref ga), .val (.ref sa), .val (.ref ca), .val (.int (0 : Int32)), .unset] [(.int (0 : Int32))]
  refine Wp.istore (L' := #[.val (.long g0), .second, .val (.long r0), .second, .val (.int r2), .val (.long g1), .second, .val (.long r1), .second, .val (.int mode), .val (.int q), .val (.int (1 : Int32)), .val (.int (0 : Int32)), .val (.long s0), .second, .val (.long s1), .second, .val (.int c0), .val (.int c1), .val (.ref ga), .val (.ref sa), .val (.ref ca), .val (.int (0 : Int32)), .val (.int (0 : Int32))]) (pc' := 311) at_309 rfl rfl ?_
  refine Wp.iload (pc' := 313) at_311 rfl rfl ?_
  refine Wp.iload (pc' := 315) at_313 rfl rfl ?_
  refine Wp.icmpN (pc' := 318) at_315 (not_not_intro rfl) rfl ?_
  refine Wp.iconst (z := (1 : Int32)) (pc' := 319) at_318 (by decide) rfl ?_
  refine Wp.goto (pc' := 323) at_319 (by decide) (by decide) ?_
  exact Wp.retS (t := .boolean) rfl (Or.inl rfl) rfl at_323 (by decide) (by decide) rfl

set_option maxRecDepth 65536 in
set_option maxHeartbeats 40000000 in
theorem rm0 (l : Launch) (Z : State) (a0 : Array Value) (hw : ∀ d ∈ tables_1, d.before a0 Z = true) (p0 p1 : Int64) (p2 : Int32) (p3 p4 : Int64) (p5 : Int32) (h : Heap) (n0 : Nat) (Z0 : n0 ≤ h.size) :
    Met l Z x code maxLocals ret room_1 #[(.long p0), (.long p1), (.int p2), (.long p3), (.long p4), (.int p5)] h n0 (fun v _ => v = some (.int 1)) := by
  refine Met.of (L0 := #[.val (.long p0), .second, .val (.long p1), .second, .val (.int p2), .val (.long p3), .second, .val (.long p4), .second, .val (.int p5), .unset, .unset, .unset, .unset, .unset, .unset, .unset, .unset, .unset, .unset, .unset, .unset, .unset, .unset]) pn_l (own_ef rfl) ?_
  have O : Hp h n0 [] := Hp.nil Z0
  refine Wp.iload (pc' := 2) at_0 rfl rfl ?_
  refine Wp.bipush (z := (7 : Int32)) (pc' := 4) at_2 (by decide) rfl ?_
  have tail : ∀ q gl sl : Int32, ((gl = (1 : Int32) ∧ sl = (1 : Int32)) ∨ (gl = (2 : Int32) ∧ sl = (2 : Int32)) ∨ (gl = (2 : Int32) ∧ sl = (1 : Int32)) ∨ (gl = (1 : Int32) ∧ sl = (2 : Int32)) ∨ (gl = (0 : Int32) ∧ sl = (0 : Int32)) ∨ (gl = (0 : Int32) ∧ sl = (1 : Int32)) ∨ (gl = (1 : Int32) ∧ sl = (0 : Int32))) → Wp l Z room_1 x code maxLocals ret n0 (fun v _ => v = some (.int 1)) h 0 0 118 #[.val (.long p0), .second, .val (.long p1), .second, .val (.int p2), .val (.long p3), .second, .val (.long p4), .second, .val (.int p5), .val (.int q), .val (.int gl), .val (.int sl), .unset, .unset, .unset, .unset, .unset, .unset, .unset, .unset, .unset, .unset, .unset] [] := by
    intro q gl sl hgs
    refine Wp.lloadN (pc' := 119) at_118 rfl rfl ?_
    refine Wp.ldc2Long (v := (9223372036854775807 : Int64)) (pc' := 122) (hw _ (List.mem_of_getElem? (i := 0) rfl)) at_119 rfl ?_
    refine Wp.land (z := (p1 &&& (9223372036854775807 : Int64))) (pc' := 123) at_122 rfl rfl ?_
    obtain ⟨s0, e_s0⟩ : ∃ z, z = (p1 &&& (9223372036854775807 : Int64)) := ⟨_, rfl⟩
    rw [← e_s0]
    refine Wp.lstore (L' := #[.val (.long p0), .second, .val (.long p1), .second, .val (.int p2), .val (.long p3), .second, .val (.long p4), .second, .val (.int p5), .val (.int q), .val (.int gl), .val (.int sl), .val (.long s0), .second, .unset, .unset, .unset, .unset, .unset, .unset, .unset, .unset, .unset]) (pc' := 125) at_123 rfl rfl ?_
    refine Wp.lload (pc' := 127) at_125 rfl rfl ?_
    refine Wp.ldc2Long (v := (9223372036854775807 : Int64)) (pc' := 130) (hw _ (List.mem_of_getElem? (i := 0) rfl)) at_127 rfl ?_
    refine Wp.land (z := (p4 &&& (9223372036854775807 : Int64))) (pc' := 131) at_130 rfl rfl ?_
    obtain ⟨s1, e_s1⟩ : ∃ z, z = (p4 &&& (9223372036854775807 : Int64)) := ⟨_, rfl⟩
    rw [← e_s1]
    refine Wp.lstore (L' := #[.val (.long p0), .second, .val (.long p1), .second, .val (.int p2), .val (.long p3), .second, .val (.long p4), .second, .val (.int p5), .val (.int q), .val (.int gl), .val (.int sl), .val (.long s0), .second, .val (.long s1), .second, .unset, .unset, .unset, .unset, .unset, .unset, .unset]) (pc' := 133) at_131 rfl rfl ?_
    refine Wp.iconst (z := (1 : Int32)) (pc' := 134) at_133 (by decide) rfl ?_
    refine Wp.iload (pc' := 136) at_134 rfl rfl ?_
    refine Wp.ldcInt (v := (2147483647 : Int32)) (pc' := 138) (hw _ (List.mem_of_getElem? (i := 1) rfl)) at_136 rfl ?_
    refine Wp.iand (z := (p2 &&& (2147483647 : Int32))) (pc' := 139) at_138 rfl rfl ?_
    refine Wp.callS (yy := (⟨"java/lang/Math", "max", "(II)I"⟩ : MethodName)) (pc' := 142) (argsL := [(.int (1 : Int32)), (.int (p2 &&& (2147483647 : Int32)))]) (S := []) (rm_max l Z a0 hw (1 : Int32) (p2 &&& (2147483647 : Int32)) h n0) (hw _ (List.mem_of_getElem? (i := 2) rfl)) (hw _ (List.mem_of_getElem? (i := 3) rfl)) (hw _ (List.mem_of_getElem? (i := 4) rfl)) (hw _ (List.mem_of_getElem? (i := 5) rfl)) (by decide) (W := 0) rfl (lenOf pd_3 rfl) rfl rfl (Nat.le_refl 0) (by decide) (by decide) (by decide) (by decide) at_139 rfl ?_
    rintro _ _ ⟨rfl, rfl⟩
    show Wp _ _ _ _ _ _ _ _ _ _ _ _ 142 #[.val (.long p0), .second, .val (.long p1), .second, .val (.int p2), .val (.long p3), .second, .val (.long p4), .second, .val (.int p5), .val (.int q), .val (.int gl), .val (.int sl), .val (.long s0), .second, .val (.long s1), .second, .unset, .unset, .unset, .unset, .unset, .unset, .unset] [(.int (own_max (1 : Int32) (p2 &&& (2147483647 : Int32))))]
    obtain ⟨c0, e_c0⟩ : ∃ z, z = (own_max (1 : Int32) (p2 &&& (2147483647 : Int32))) := ⟨_, rfl⟩
    rw [← e_c0]
    refine Wp.istore (L' := #[.val (.long p0), .second, .val (.long p1), .second, .val (.int p2), .val (.long p3), .second, .val (.long p4), .second, .val (.int p5), .val (.int q), .val (.int gl), .val (.int sl), .val (.long s0), .second, .val (.long s1), .second, .val (.int c0), .unset, .unset, .unset, .unset, .unset, .unset]) (pc' := 144) at_142 rfl rfl ?_
    refine Wp.iload (pc' := 146) at_144 rfl rfl ?_
    refine Wp.iconst (z := (3 : Int32)) (pc' := 147) at_146 (by decide) rfl ?_
    refine Wp.iushr (z := (Free.XT.ushr p5 (3 : Int32))) (pc' := 148) at_147 rfl rfl ?_
    refine Wp.iconst (z := (1 : Int32)) (pc' := 149) at_148 (by decide) rfl ?_
    refine Wp.iadd (z := ((Free.XT.ushr p5 (3 : Int32)) + (1 : Int32))) (pc' := 150) at_149 rfl rfl ?_
    obtain ⟨c1, e_c1⟩ : ∃ z, z = ((Free.XT.ushr p5 (3 : Int32)) + (1 : Int32)) := ⟨_, rfl⟩
    rw [← e_c1]
    refine Wp.istore (L' := #[.val (.long p0), .second, .val (.long p1), .second, .val (.int p2), .val (.long p3), .second, .val (.long p4), .second, .val (.int p5), .val (.int q), .val (.int gl), .val (.int sl), .val (.long s0), .second, .val (.long s1), .second, .val (.int c0), .val (.int c1), .unset, .unset, .unset, .unset, .unset]) (pc' := 152) at_150 rfl rfl ?_
    have hs0 : 0 ≤ s0.toInt := by rw [e_s0]; exact own_s0 _
    have hs1 : 0 ≤ s1.toInt := by rw [e_s1]; exact own_s0 _
    have hc0 : 0 < c0.toInt := by rw [e_c0]; exact own_maxpos _
    have hc1 : 0 < c1.toInt := by rw [e_c1]; exact own_c1pos _
    rcases hgs with ⟨rfl, rfl⟩ | ⟨rfl, rfl⟩ | ⟨rfl, rfl⟩ | ⟨rfl, rfl⟩ | ⟨rfl, rfl⟩ | ⟨rfl, rfl⟩ | ⟨rfl, rfl⟩
    · exact tl_11 l Z a0 hw _ _ _ _ _ _ _ _ _ _ _ hs0 hs1 hc0 hc1 h n0 O
    · exact tl_22 l Z a0 hw _ _ _ _ _ _ _ _ _ _ _ hs0 hs1 hc0 hc1 h n0 O
    · exact tl_21 l Z a0 hw _ _ _ _ _ _ _ _ _ _ _ hs0 hs1 hc0 hc1 h n0 O
    · exact tl_12 l Z a0 hw _ _ _ _ _ _ _ _ _ _ _ hs0 hs1 hc0 hc1 h n0 O
    · exact tl_00 l Z a0 hw _ _ _ _ _ _ _ _ _ _ _ hs0 hs1 hc0 hc1 h n0 O
    · exact tl_01 l Z a0 hw _ _ _ _ _ _ _ _ _ _ _ hs0 hs1 hc0 hc1 h n0 O
    · exact tl_10 l Z a0 hw _ _ _ _ _ _ _ _ _ _ _ hs0 hs1 hc0 hc1 h n0 O
  rcases own_eight p5 with e | e | e | e | e | e | e | e
  · refine Wp.iand (z := (0 : Int32)) (pc' := 5) at_4 e rfl ?_
    refine Wp.istore (L' := #[.val (.long p0), .second, .val (.long p1), .second, .val (.int p2), .val (.long p3), .second, .val (.long p4), .second, .val (.int p5), .val (.int (0 : Int32)), .unset, .unset, .unset, .unset, .unset, .unset, .unset, .unset, .unset, .unset, .unset, .unset, .unset]) (pc' := 7) at_5 rfl rfl ?_
    refine Wp.iload (pc' := 9) at_7 rfl rfl ?_
    refine Wp.ifN (pc' := 12) at_9 (not_not_intro rfl) rfl ?_
    refine Wp.iconst (z := (1 : Int32)) (pc' := 13) at_12 (by decide) rfl ?_
    refine Wp.istore (L' := #[.val (.long p0), .second, .val (.long p1), .second, .val (.int p2), .val (.long p3), .second, .val (.long p4), .second, .val (.int p5), .val (.int (0 : Int32)), .val (.int (1 : Int32)), .unset, .unset, .unset, .unset, .unset, .unset, .unset, .unset, .unset, .unset, .unset, .unset]) (pc' := 15) at_13 rfl rfl ?_
    refine Wp.iconst (z := (1 : Int32)) (pc' := 16) at_15 (by decide) rfl ?_
    refine Wp.istore (L' := #[.val (.long p0), .second, .val (.long p1), .second, .val (.int p2), .val (.long p3), .second, .val (.long p4), .second, .val (.int p5), .val (.int (0 : Int32)), .val (.int (1 : Int32)), .val (.int (1 : Int32)), .unset, .unset, .unset, .unset, .unset, .unset, .unset, .unset, .unset, .unset, .unset]) (pc' := 18) at_16 rfl rfl ?_
    refine Wp.goto (pc' := 118) at_18 (by decide) (by decide) ?_
    exact tail _ _ _ (Or.inl ⟨rfl, rfl⟩)
  · refine Wp.iand (z := (1 : Int32)) (pc' := 5) at_4 e rfl ?_
    refine Wp.istore (L' := #[.val (.long p0), .second, .val (.long p1), .second, .val (.int p2), .val (.long p3), .second, .val (.long p4), .second, .val (.int p5), .val (.int (1 : Int32)), .unset, .unset, .unset, .unset, .unset, .unset, .unset, .unset, .unset, .unset, .unset, .unset, .unset]) (pc' := 7) at_5 rfl rfl ?_
    refine Wp.iload (pc' := 9) at_7 rfl rfl ?_
    refine Wp.ifY (pc' := 21) at_9 (by decide) (by decide) (by decide) ?_
    refine Wp.iload (pc' := 23) at_21 rfl rfl ?_
    refine Wp.iconst (z := (1 : Int32)) (pc' := 24) at_23 (by decide) rfl ?_
    refine Wp.icmpN (pc' := 27) at_24 (not_not_intro rfl) rfl ?_
    refine Wp.iconst (z := (2 : Int32)) (pc' := 28) at_27 (by decide) rfl ?_
    refine Wp.istore (L' := #[.val (.long p0), .second, .val (.long p1), .second, .val (.int p2), .val (.long p3), .second, .val (.long p4), .second, .val (.int p5), .val (.int (1 : Int32)), .val (.int (2 : Int32)), .unset, .unset, .unset, .unset, .unset, .unset, .unset, .unset, .unset, .unset, .unset, .unset]) (pc' := 30) at_28 rfl rfl ?_
    refine Wp.iconst (z := (2 : Int32)) (pc' := 31) at_30 (by decide) rfl ?_
    refine Wp.istore (L' := #[.val (.long p0), .second, .val (.long p1), .second, .val (.int p2), .val (.long p3), .second, .val (.long p4), .second, .val (.int p5), .val (.int (1 : Int32)), .val (.int (2 : Int32)), .val (.int (2 : Int32)), .unset, .unset, .unset, .unset, .unset, .unset, .unset, .unset, .unset, .unset, .unset]) (pc' := 33) at_31 rfl rfl ?_
    refine Wp.goto (pc' := 118) at_33 (by decide) (by decide) ?_
    exact tail _ _ _ (Or.inr (Or.inl ⟨rfl, rfl⟩))
  · refine Wp.iand (z := (2 : Int32)) (pc' := 5) at_4 e rfl ?_
    refine Wp.istore (L' := #[.val (.long p0), .second, .val (.long p1), .second, .val (.int p2), .val (.long p3), .second, .val (.long p4), .second, .val (.int p5), .val (.int (2 : Int32)), .unset, .unset, .unset, .unset, .unset, .unset, .unset, .unset, .unset, .unset, .unset, .unset, .unset]) (pc' := 7) at_5 rfl rfl ?_
    refine Wp.iload (pc' := 9) at_7 rfl rfl ?_
    refine Wp.ifY (pc' := 21) at_9 (by decide) (by decide) (by decide) ?_
    refine Wp.iload (pc' := 23) at_21 rfl rfl ?_
    refine Wp.iconst (z := (1 : Int32)) (pc' := 24) at_23 (by decide) rfl ?_
    refine Wp.icmpY (pc' := 36) at_24 (by decide) (by decide) (by decide) ?_
    refine Wp.iload (pc' := 38) at_36 rfl rfl ?_
    refine Wp.iconst (z := (2 : Int32)) (pc' := 39) at_38 (by decide) rfl ?_
    refine Wp.icmpN (pc' := 42) at_39 (not_not_intro rfl) rfl ?_
    refine Wp.iconst (z := (2 : Int32)) (pc' := 43) at_42 (by decide) rfl ?_
    refine Wp.istore (L' := #[.val (.long p0), .second, .val (.long p1), .second, .val (.int p2), .val (.long p3), .second, .val (.long p4), .second, .val (.int p5), .val (.int (2 : Int32)), .val (.int (2 : Int32)), .unset, .unset, .unset, .unset, .unset, .unset, .unset, .unset, .unset, .unset, .unset, .unset]) (pc' := 45) at_43 rfl rfl ?_
    refine Wp.iconst (z := (1 : Int32)) (pc' := 46) at_45 (by decide) rfl ?_
    refine Wp.istore (L' := #[.val (.long p0), .second, .val (.long p1), .second, .val (.int p2), .val (.long p3), .second, .val (.long p4), .second, .val (.int p5), .val (.int (2 : Int32)), .val (.int (2 : Int32)), .val (.int (1 : Int32)), .unset, .unset, .unset, .unset, .unset, .unset, .unset, .unset, .unset, .unset, .unset]) (pc' := 48) at_46 rfl rfl ?_
    refine Wp.goto (pc' := 118) at_48 (by decide) (by decide) ?_
    exact tail _ _ _ (Or.inr (Or.inr (Or.inl ⟨rfl, rfl⟩)))
  · refine Wp.iand (z := (3 : Int32)) (pc' := 5) at_4 e rfl ?_
    refine Wp.istore (L' := #[.val (.long p0), .second, .val (.long p1), .second, .val (.int p2), .val (.long p3), .second, .val (.long p4), .second, .val (.int p5), .val (.int (3 : Int32)), .unset, .unset, .unset, .unset, .unset, .unset, .unset, .unset, .unset, .unset, .unset, .unset, .unset]) (pc' := 7) at_5 rfl rfl ?_
    refine Wp.iload (pc' := 9) at_7 rfl rfl ?_
    refine Wp.ifY (pc' := 21) at_9 (by decide) (by decide) (by decide) ?_
    refine Wp.iload (pc' := 23) at_21 rfl rfl ?_
    refine Wp.iconst (z := (1 : Int32)) (pc' := 24) at_23 (by decide) rfl ?_
    refine Wp.icmpY (pc' := 36) at_24 (by decide) (by decide) (by decide) ?_
    refine Wp.iload (pc' := 38) at_36 rfl rfl ?_
    refine Wp.iconst (z := (2 : Int32)) (pc' := 39) at_38 (by decide) rfl ?_
    refine Wp.icmpY (pc' := 51) at_39 (by decide) (by decide) (by decide) ?_
    refine Wp.iload (pc' := 53) at_51 rfl rfl ?_
    refine Wp.iconst (z := (3 : Int32)) (pc' := 54) at_53 (by decide) rfl ?_
    refine Wp.icmpN (pc' := 57) at_54 (not_not_intro rfl) rfl ?_
    refine Wp.iconst (z := (1 : Int32)) (pc' := 58) at_57 (by decide) rfl ?_
    refine Wp.istore (L' := #[.val (.long p0), .second, .val (.long p1), .second, .val (.int p2), .val (.long p3), .second, .val (.long p4), .second, .val (.int p5), .val (.int (3 : Int32)), .val (.int (1 : Int32)), .unset, .unset, .unset, .unset, .unset, .unset, .unset, .unset, .unset, .unset, .unset, .unset]) (pc' := 60) at_58 rfl rfl ?_
    refine Wp.iconst (z := (2 : Int32)) (pc' := 61) at_60 (by decide) rfl ?_
    refine Wp.istore (L' := #[.val (.long p0), .second, .val (.long p1), .second, .val (.int p2), .val (.long p3), .second, .val (.long p4), .second, .val (.int p5), .val (.int (3 : Int32)), .val (.int (1 : Int32)), .val (.int (2 : Int32)), .unset, .unset, .unset, .unset, .unset, .unset, .unset, .unset, .unset, .unset, .unset]) (pc' := 63) at_61 rfl rfl ?_
    refine Wp.goto (pc' := 118) at_63 (by decide) (by decide) ?_
    exact tail _ _ _ (Or.inr (Or.inr (Or.inr (Or.inl ⟨rfl, rfl⟩))))
  · refine Wp.iand (z := (4 : Int32)) (pc' := 5) at_4 e rfl ?_
    refine Wp.istore (L' := #[.val (.long p0), .second, .val (.long p1), .second, .val (.int p2), .val (.long p3), .second, .val (.long p4), .second, .val (.int p5), .val (.int (4 : Int32)), .unset, .unset, .unset, .unset, .unset, .unset, .unset, .unset, .unset, .unset, .unset, .unset, .unset]) (pc' := 7) at_5 rfl rfl ?_
    refine Wp.iload (pc' := 9) at_7 rfl rfl ?_
    refine Wp.ifY (pc' := 21) at_9 (by decide) (by decide) (by decide) ?_
    refine Wp.iload (pc' := 23) at_21 rfl rfl ?_
    refine Wp.iconst (z := (1 : Int32)) (pc' := 24) at_23 (by decide) rfl ?_
    refine Wp.icmpY (pc' := 36) at_24 (by decide) (by decide) (by decide) ?_
    refine Wp.iload (pc' := 38) at_36 rfl rfl ?_
    refine Wp.iconst (z := (2 : Int32)) (pc' := 39) at_38 (by decide) rfl ?_
    refine Wp.icmpY (pc' := 51) at_39 (by decide) (by decide) (by decide) ?_
    refine Wp.iload (pc' := 53) at_51 rfl rfl ?_
    refine Wp.iconst (z := (3 : Int32)) (pc' := 54) at_53 (by decide) rfl ?_
    refine Wp.icmpY (pc' := 66) at_54 (by decide) (by decide) (by decide) ?_
    refine Wp.iload (pc' := 68) at_66 rfl rfl ?_
    refine Wp.iconst (z := (4 : Int32)) (pc' := 69) at_68 (by decide) rfl ?_
    refine Wp.icmpN (pc' := 72) at_69 (not_not_intro rfl) rfl ?_
    refine Wp.iconst (z := (0 : Int32)) (pc' := 73) at_72 (by decide) rfl ?_
    refine Wp.istore (L' := #[.val (.long p0), .second, .val (.long p1), .second, .val (.int p2), .val (.long p3), .second, .val (.long p4), .second, .val (.int p5), .val (.int (4 : Int32)), .val (.int (0 : Int32)), .unset, .unset, .unset, .unset, .unset, .unset, .unset, .unset, .unset, .unset, .unset, .unset]) (pc' := 75) at_73 rfl rfl ?_
    refine Wp.iconst (z := (0 : Int32)) (pc' := 76) at_75 (by decide) rfl ?_
    refine Wp.istore (L' := #[.val (.long p0), .second, .val (.long p1), .second, .val (.int p2), .val (.long p3), .second, .val (.long p4), .second, .val (.int p5), .val (.int (4 : Int32)), .val (.int (0 : Int32)), .val (.int (0 : Int32)), .unset, .unset, .unset, .unset, .unset, .unset, .unset, .unset, .unset, .unset, .unset]) (pc' := 78) at_76 rfl rfl ?_
    refine Wp.goto (pc' := 118) at_78 (by decide) (by decide) ?_
    exact tail _ _ _ (Or.inr (Or.inr (Or.inr (Or.inr (Or.inl ⟨rfl, rfl⟩)))))
  · refine Wp.iand (z := (5 : Int32)) (pc' := 5) at_4 e rfl ?_
    refine Wp.istore (L' := #[.val (.long p0), .second, .val (.long p1), .second, .val (.int p2), .val (.long p3), .second, .val (.long p4), .second, .val (.int p5), .val (.int (5 : Int32)), .unset, .unset, .unset, .unset, .unset, .unset, .unset, .unset, .unset, .unset, .unset, .unset, .unset]) (pc' := 7) at_5 rfl rfl ?_
    refine Wp.iload (pc' := 9) at_7 rfl rfl ?_
    refine Wp.ifY (pc' := 21) at_9 (by decide) (by decide) (by decide) ?_
    refine Wp.iload (pc' := 23) at_21 rfl rfl ?_
    refine Wp.iconst (z := (1 : Int32)) (pc' := 24) at_23 (by decide) rfl ?_
    refine Wp.icmpY (pc' := 36) at_24 (by decide) (by decide) (by decide) ?_
    refine Wp.iload (pc' := 38) at_36 rfl rfl ?_
    refine Wp.iconst (z := (2 : Int32)) (pc' := 39) at_38 (by decide) rfl ?_
    refine Wp.icmpY (pc' := 51) at_39 (by decide) (by decide) (by decide) ?_
    refine Wp.iload (pc' := 53) at_51 rfl rfl ?_
    refine Wp.iconst (z := (3 : Int32)) (pc' := 54) at_53 (by decide) rfl ?_
    refine Wp.icmpY (pc' := 66) at_54 (by decide) (by decide) (by decide) ?_
    refine Wp.iload (pc' := 68) at_66 rfl rfl ?_
    refine Wp.iconst (z := (4 : Int32)) (pc' := 69) at_68 (by decide) rfl ?_
    refine Wp.icmpY (pc' := 81) at_69 (by decide) (by decide) (by decide) ?_
    refine Wp.iload (pc' := 83) at_81 rfl rfl ?_
    refine Wp.iconst (z := (5 : Int32)) (pc' := 84) at_83 (by decide) rfl ?_
    refine Wp.icmpN (pc' := 87) at_84 (not_not_intro rfl) rfl ?_
    refine Wp.iconst (z := (0 : Int32)) (pc' := 88) at_87 (by decide) rfl ?_
    refine Wp.istore (L' := #[.val (.long p0), .second, .val (.long p1), .second, .val (.int p2), .val (.long p3), .second, .val (.long p4), .second, .val (.int p5), .val (.int (5 : Int32)), .val (.int (0 : Int32)), .unset, .unset, .unset, .unset, .unset, .unset, .unset, .unset, .unset, .unset, .unset, .unset]) (pc' := 90) at_88 rfl rfl ?_
    refine Wp.iconst (z := (1 : Int32)) (pc' := 91) at_90 (by decide) rfl ?_
    refine Wp.istore (L' := #[.val (.long p0), .second, .val (.long p1), .second, .val (.int p2), .val (.long p3), .second, .val (.long p4), .second, .val (.int p5), .val (.int (5 : Int32)), .val (.int (0 : Int32)), .val (.int (1 : Int32)), .unset, .unset, .unset, .unset, .unset, .unset, .unset, .unset, .unset, .unset, .unset]) (pc' := 93) at_91 rfl rfl ?_
    refine Wp.goto (pc' := 118) at_93 (by decide) (by decide) ?_
    exact tail _ _ _ (Or.inr (Or.inr (Or.inr (Or.inr (Or.inr (Or.inl ⟨rfl, rfl⟩))))))
  · refine Wp.iand (z := (6 : Int32)) (pc' := 5) at_4 e rfl ?_
    refine Wp.istore (L' := #[.val (.long p0), .second, .val (.long p1), .second, .val (.int p2), .val (.long p3), .second, .val (.long p4), .second, .val (.int p5), .val (.int (6 : Int32)), .unset, .unset, .unset, .unset, .unset, .unset, .unset, .unset, .unset, .unset, .unset, .unset, .unset]) (pc' := 7) at_5 rfl rfl ?_
    refine Wp.iload (pc' := 9) at_7 rfl rfl ?_
    refine Wp.ifY (pc' := 21) at_9 (by decide) (by decide) (by decide) ?_
    refine Wp.iload (pc' := 23) at_21 rfl rfl ?_
    refine Wp.iconst (z := (1 : Int32)) (pc' := 24) at_23 (by decide) rfl ?_
    refine Wp.icmpY (pc' := 36) at_24 (by decide) (by decide) (by decide) ?_
    refine Wp.iload (pc' := 38) at_36 rfl rfl ?_
    refine Wp.iconst (z := (2 : Int32)) (pc' := 39) at_38 (by decide) rfl ?_
    refine Wp.icmpY (pc' := 51) at_39 (by decide) (by decide) (by decide) ?_
    refine Wp.iload (pc' := 53) at_51 rfl rfl ?_
    refine Wp.iconst (z := (3 : Int32)) (pc' := 54) at_53 (by decide) rfl ?_
    refine Wp.icmpY (pc' := 66) at_54 (by decide) (by decide) (by decide) ?_
    refine Wp.iload (pc' := 68) at_66 rfl rfl ?_
    refine Wp.iconst (z := (4 : Int32)) (pc' := 69) at_68 (by decide) rfl ?_
    refine Wp.icmpY (pc' := 81) at_69 (by decide) (by decide) (by decide) ?_
    refine Wp.iload (pc' := 83) at_81 rfl rfl ?_
    refine Wp.iconst (z := (5 : Int32)) (pc' := 84) at_83 (by decide) rfl ?_
    refine Wp.icmpY (pc' := 96) at_84 (by decide) (by decide) (by decide) ?_
    refine Wp.iload (pc' := 98) at_96 rfl rfl ?_
    refine Wp.bipush (z := (6 : Int32)) (pc' := 100) at_98 (by decide) rfl ?_
    refine Wp.icmpN (pc' := 103) at_100 (not_not_intro rfl) rfl ?_
    refine Wp.iconst (z := (1 : Int32)) (pc' := 104) at_103 (by decide) rfl ?_
    refine Wp.istore (L' := #[.val (.long p0), .second, .val (.long p1), .second, .val (.int p2), .val (.long p3), .second, .val (.long p4), .second, .val (.int p5), .val (.int (6 : Int32)), .val (.int (1 : Int32)), .unset, .unset, .unset, .unset, .unset, .unset, .unset, .unset, .unset, .unset, .unset, .unset]) (pc' := 106) at_104 rfl rfl ?_
    refine Wp.iconst (z := (0 : Int32)) (pc' := 107) at_106 (by decide) rfl ?_
    refine Wp.istore (L' := #[.val (.long p0), .second, .val (.long p1), .second, .val (.int p2), .val (.long p3), .second, .val (.long p4), .second, .val (.int p5), .val (.int (6 : Int32)), .val (.int (1 : Int32)), .val (.int (0 : Int32)), .unset, .unset, .unset, .unset, .unset, .unset, .unset, .unset, .unset, .unset, .unset]) (pc' := 109) at_107 rfl rfl ?_
    refine Wp.goto (pc' := 118) at_109 (by decide) (by decide) ?_
    exact tail _ _ _ (Or.inr (Or.inr (Or.inr (Or.inr (Or.inr (Or.inr (⟨rfl, rfl⟩)))))))
  · refine Wp.iand (z := (7 : Int32)) (pc' := 5) at_4 e rfl ?_
    refine Wp.istore (L' := #[.val (.long p0), .second, .val (.long p1), .second, .val (.int p2), .val (.long p3), .second, .val (.long p4), .second, .val (.int p5), .val (.int (7 : Int32)), .unset, .unset, .unset, .unset, .unset, .unset, .unset, .unset, .unset, .unset, .unset, .unset, .unset]) (pc' := 7) at_5 rfl rfl ?_
    refine Wp.iload (pc' := 9) at_7 rfl rfl ?_
    refine Wp.ifY (pc' := 21) at_9 (by decide) (by decide) (by decide) ?_
    refine Wp.iload (pc' := 23) at_21 rfl rfl ?_
    refine Wp.iconst (z := (1 : Int32)) (pc' := 24) at_23 (by decide) rfl ?_
    refine Wp.icmpY (pc' := 36) at_24 (by decide) (by decide) (by decide) ?_
    refine Wp.iload (pc' := 38) at_36 rfl rfl ?_
    refine Wp.iconst (z := (2 : Int32)) (pc' := 39) at_38 (by decide) rfl ?_
    refine Wp.icmpY (pc' := 51) at_39 (by decide) (by decide) (by decide) ?_
    refine Wp.iload (pc' := 53) at_51 rfl rfl ?_
    refine Wp.iconst (z := (3 : Int32)) (pc' := 54) at_53 (by decide) rfl ?_
    refine Wp.icmpY (pc' := 66) at_54 (by decide) (by decide) (by decide) ?_
    refine Wp.iload (pc' := 68) at_66 rfl rfl ?_
    refine Wp.iconst (z := (4 : Int32)) (pc' := 69) at_68 (by decide) rfl ?_
    refine Wp.icmpY (pc' := 81) at_69 (by decide) (by decide) (by decide) ?_
    refine Wp.iload (pc' := 83) at_81 rfl rfl ?_
    refine Wp.iconst (z := (5 : Int32)) (pc' := 84) at_83 (by decide) rfl ?_
    refine Wp.icmpY (pc' := 96) at_84 (by decide) (by decide) (by decide) ?_
    refine Wp.iload (pc' := 98) at_96 rfl rfl ?_
    refine Wp.bipush (z := (6 : Int32)) (pc' := 100) at_98 (by decide) rfl ?_
    refine Wp.icmpY (pc' := 112) at_100 (by decide) (by decide) (by decide) ?_
    refine Wp.iconst (z := (2 : Int32)) (pc' := 113) at_112 (by decide) rfl ?_
    refine Wp.istore (L' := #[.val (.long p0), .second, .val (.long p1), .second, .val (.int p2), .val (.long p3), .second, .val (.long p4), .second, .val (.int p5), .val (.int (7 : Int32)), .val (.int (2 : Int32)), .unset, .unset, .unset, .unset, .unset, .unset, .unset, .unset, .unset, .unset, .unset, .unset]) (pc' := 115) at_113 rfl rfl ?_
    refine Wp.iconst (z := (2 : Int32)) (pc' := 116) at_115 (by decide) rfl ?_
    refine Wp.istore (L' := #[.val (.long p0), .second, .val (.long p1), .second, .val (.int p2), .val (.long p3), .second, .val (.long p4), .second, .val (.int p5), .val (.int (7 : Int32)), .val (.int (2 : Int32)), .val (.int (2 : Int32)), .unset, .unset, .unset, .unset, .unset, .unset, .unset, .unset, .unset, .unset, .unset]) (pc' := 118) at_116 rfl rfl ?_
    exact tail _ _ _ (Or.inr (Or.inl ⟨rfl, rfl⟩))

set_option maxRecDepth 65536 in
set_option maxHeartbeats 40000000 in
theorem comes_1 {Post : Tables → Env → Array Value → State → Outcome → State → Prop} (hpost : ∀ tb e args s v u, (limb_1_1.after args s (.returned v) u = true ∧ limb_1_2.after args s (.returned v) u = true ∧ True) → FrameEnd s (.returned v) u (Jvm.fieldLocs frame_1_writes args s ++ Jvm.arrayLocs frame_1_arrays args s ++ Jvm.staticLocs frame_1_statics s) 16 128 → Post tb e args s (.returned v) u) :
    ArmFor flags0 classFile x code maxLocals ret World_1 tables_1 room_1 Calls_1 rest_1 Pre_1 Post := by
  intro l hfl _ _ p e ha hc hk s m args below hf hA hF happ hP
  obtain ⟨hcalls, hrest, hpre⟩ := hP
  obtain ⟨-, -, -, hnamed, -, -, -, hat⟩ := (Spec.applies_iff hf).mp happ
  obtain ⟨hg, hn⟩ := and_e (Cond.before_iff.mp (show (Jvm.Cond.and given_1 narrow_1).before args s = true from hpre))
  obtain ⟨g0, q0⟩ := and_e hg
  obtain ⟨w0, w1, w2, w3, w4, w5, rfl⟩ : ∃ w0 w1 w2 w3 w4 w5 : Value, args = #[w0, w1, w2, w3, w4, w5] := by
    have hs : args.size = 6 := by simpa [Cond.value, given_1] using g0
    obtain ⟨L⟩ := args
    match L, hs with
    | [w0, w1, w2, w3, w4, w5], _ => exact ⟨w0, w1, w2, w3, w4, w5, rfl⟩
  have hw := fun d (hd : d ∈ tables_1) => atoms_spec (ws := Jvm.Cond.code x code maxLocals ret :: tables_1) hat d (List.mem_cons_of_mem _ hd)
  obtain ⟨g1, q1⟩ := and_e q0
  obtain ⟨i0, e0⟩ := isL_v g1
  obtain rfl : w0 = (.long i0) := Option.some.inj e0
  obtain ⟨g2, q2⟩ := and_e q1
  obtain ⟨i1, e1⟩ := isL_v g2
  obtain rfl : w1 = (.long i1) := Option.some.inj e1
  obtain ⟨g3, q3⟩ := and_e q2
  obtain ⟨i2, e2⟩ := is_v g3
  obtain rfl : w2 = (.int i2) := Option.some.inj e2
  obtain ⟨g4, q4⟩ := and_e q3
  obtain ⟨i3, e3⟩ := isL_v g4
  obtain rfl : w3 = (.long i3) := Option.some.inj e3
  obtain ⟨g5, q5⟩ := and_e q4
  obtain ⟨i4, e4⟩ := isL_v g5
  obtain rfl : w4 = (.long i4) := Option.some.inj e4
  obtain ⟨i5, e5⟩ := is_v q5
  obtain rfl : w5 = (.int i5) := Option.some.inj e5
  obtain ⟨n, o, h1, h2, h3, v, L, rfl, ⟨hv, N⟩, hq⟩ := (rm0 l s _ hw i0 i1 i2 i3 i4 i5 s.heap s.heap.size (Nat.le_refl _)) tables_1 p e ha hc hk s m _ below hf ((Spec.applies_iff_loose hf).mp happ).1 ⟨rfl, State.Warmed39.refl s, rfl⟩ trivial
  subst hv
  refine ⟨n, _, h1, h2, h3, hpost _ _ _ _ _ _ ⟨Cond.after_iff.mpr rfl, Cond.after_iff.mpr (eq_i res_at (Term.int_eval (1)) rfl), trivial⟩ ⟨hq.1, hq.2.1, (hq.2.2.sift fun y hy => Or.inr (N y hy)).mono (by decide) (by decide)⟩⟩
theorem main_1_1 : Claimed_1_1 := comes_1 fun _ _ _ _ _ _ h hF => ⟨h.1, hF⟩
theorem main_1_2 : Claimed_1_2 := comes_1 fun _ _ _ _ _ _ h hF => ⟨h.2.1, hF⟩

end Jvm.Pilot.@@N@@
namespace Jvm.Pilot.@@N@@
open Jvm Jvm.ClassFile Sem Op Lib Jvm.Free Jvm.Stand Jvm.Pilot.@@N@@.Jvm.D
/-! MADE BY PROGRAM (witnessworld.py) out of the Statement's table words and the real class files: 12 classes; the members and pool entries that the words name. The judged class is class 1, her method 2. -/
namespace start1
open Jvm.ClassFile
def u (s : String) : CpInfo := .utf8 (stringToUtf16 s)
/-- a pool by its gaps: so many unusable entries, then the entry; so many at the end -/
def gap : Nat → List CpInfo → List CpInfo
  | 0, r => r
  | n + 1, r => .unusable :: gap n r
def poolList (es : List (Nat × CpInfo)) (last : Nat) : List CpInfo := es.foldr (fun e r => gap e.1 (e.2 :: r)) (gap last [])
def pool (es : List (Nat × CpInfo)) (last : Nat) : Array CpInfo := ⟨poolList es last⟩
def fileOf (pool : Array CpInfo) (this : Nat) (attrs : Array Attribute := #[]) (ms : Array MethodInfo := #[]) (fl : Nat := 33) (sup : Nat := 0) (ifs : Array Nat := #[]) (fds : Array FieldInfo := #[]) : ClassFile where
  minorVersion := 0
  majorVersion := 65
  constantPool := pool
  accessFlags := fl
  thisClass := this
  superClass := sup
  interfaces := ifs
  fields := fds
  methods := ms
  attributes := attrs
def plain (name : String) (sup : Option ClassId) : Class where
  name := name
  kind := .ordinary
  loader := none
  accessFlags := 33
  super := sup
  interfaces := #[]
  cf := none
  fields := #[]
  methods := #[]
  instanceTypes := #[]
  staticTypes := #[]
  resolved := #[]
  callSites := []
  init := .initialized
  statics := none
  mirror := none

def pool0 : Array CpInfo := pool [(5, u "<init>"), (0, u "()V"), (1, .class_ 10), (1, u "java/lang/Object")] 113

def k0m0 : Method := { name := "<init>", desc := "()V", sig := { parameters := [], returnType := none }, accessFlags := 1, code := none }
/-- java/lang/Object -/
def k0 : Class := { plain "java/lang/Object" none with
  accessFlags := 33
  interfaces := #[]
  cf := some (fileOf pool0 8 #[] #[{ accessFlags := 1, nameIndex := 5, descriptorIndex := 6, attributes := #[] }] 33 0 #[] #[])
  fields := #[]
  methods := #[k0m0]
  instanceTypes := #[]
  staticTypes := #[]
  resolved := Array.replicate 124 none
  statics := none }

def pool1 : Array CpInfo := pool [(2, .class_ 4), (1, u "java/lang/Object"), (0, u "<init>"), (0, u "()V"), (2, .long 9223372036854775807), (1, .integer 2147483647), (0, .methodref 13 14), (0, .class_ 15), (0, .nameAndType 16 17), (0, u "java/lang/Math"), (0, u "max"), (0, u "(II)I"), (0, .methodref 19 20), (0, .class_ 21), (0, .nameAndType 22 23), (0, u "com/example/keyed_tensor/keyedtensor/array/DatasetIsInGridPinLaw"), (0, u "inDim"), (0, u "(JJI)Z"), (0, .interfaceMethodref 25 26), (0, .class_ 27), (0, .nameAndType 28 29), (0, u "com/example/keyed_tensor/keyedtensor/array/Dataset"), (0, u "isInGrid"), (0, u "([J[J[I)Z"), (3, u "law"), (0, u "(JJIJJI)Z")] 6

def k1m0 : Method := { name := "<init>", desc := "()V", sig := { parameters := [], returnType := none }, accessFlags := 1, code := none }
def k1c1 : Code := { maxStack := 6, maxLocals := 5, code := method_2_code, exceptionTable := #[], attributes := #[] }
def k1m1 : Method := { name := "inDim", desc := "(JJI)Z", sig := { parameters := [.long, .long, .int], returnType := some .boolean }, accessFlags := 10, code := some k1c1 }
def k1c2 : Code := { maxStack := 5, maxLocals := 24, code := code, exceptionTable := #[], attributes := #[] }
def k1m2 : Method := { name := "law", desc := "(JJIJJI)Z", sig := { parameters := [.long, .long, .int, .long, .long, .int], returnType := some .boolean }, accessFlags := 9, code := some k1c2 }
/-- com/example/keyed_tensor/keyedtensor/array/DatasetIsInGridPinLaw -/
def k1 : Class := { plain "com/example/keyed_tensor/keyedtensor/array/DatasetIsInGridPinLaw" (some 0) with
  accessFlags := 49
  interfaces := #[]
  cf := some (fileOf pool1 19 #[] #[{ accessFlags := 1, nameIndex := 5, descriptorIndex := 6, attributes := #[] }, { accessFlags := 10, nameIndex := 22, descriptorIndex := 23, attributes := #[] }, { accessFlags := 9, nameIndex := 33, descriptorIndex := 34, attributes := #[] }] 49 2 #[] #[])
  fields := #[]
  methods := #[k1m0, k1m1, k1m2]
  instanceTypes := #[]
  staticTypes := #[]
  resolved := Array.replicate 41 none
  statics := none }

def pool2 : Array CpInfo := pool [(1, .class_ 2), (0, u "java/lang/Math"), (1, .class_ 6), (1, u "java/lang/Object"), (0, u "<init>"), (0, u "()V"), (89, .class_ 100), (1, u "java/lang/Math$RandomNumberGeneratorHolder"), (71, u "negativeZeroFloatBits"), (0, u "J"), (2, u "negativeZeroDoubleBits"), (21, u "max"), (46, u "$assertionsDisabled"), (0, u "Z"), (88, u "(II)I"), (2, u "twoToTheDoubleScaleDown"), (0, u "D"), (4, u "twoToTheDoubleScaleUp"), (9, u "E"), (3, u "PI"), (2, u "TAU"), (2, u "DEGREES_TO_RADIANS"), (0, u "RADIANS_TO_DEGREES")] 94

def k2m0 : Method := { name := "<init>", desc := "()V", sig := { parameters := [], returnType := none }, accessFlags := 2, code := none }
def k2c1 : Code := { maxStack := 2, maxLocals := 2, code := jdk_29_method_65_code, exceptionTable := #[], attributes := #[] }
def k2m1 : Method := { name := "max", desc := "(II)I", sig := { parameters := [.int, .int], returnType := some .int }, accessFlags := 9, code := some k2c1 }
/-- java/lang/Math -/
def k2 : Class := { plain "java/lang/Math" (some 0) with
  accessFlags := 49
  interfaces := #[]
  cf := some (fileOf pool2 1 #[.nestMembers #[98]] #[{ accessFlags := 2, nameIndex := 7, descriptorIndex := 8, attributes := #[] }, { accessFlags := 9, nameIndex := 198, descriptorIndex := 335, attributes := #[] }] 49 4 #[] #[{ accessFlags := 25, nameIndex := 354, descriptorIndex := 339, attributes := #[] }, { accessFlags := 25, nameIndex := 358, descriptorIndex := 339, attributes := #[] }, { accessFlags := 25, nameIndex := 361, descriptorIndex := 339, attributes := #[] }, { accessFlags := 26, nameIndex := 364, descriptorIndex := 339, attributes := #[] }, { accessFlags := 26, nameIndex := 365, descriptorIndex := 339, attributes := #[] }, { accessFlags := 26, nameIndex := 172, descriptorIndex := 173, attributes := #[] }, { accessFlags := 26, nameIndex := 176, descriptorIndex := 173, attributes := #[] }, { accessFlags := 8, nameIndex := 344, descriptorIndex := 339, attributes := #[] }, { accessFlags := 8, nameIndex := 338, descriptorIndex := 339, attributes := #[] }, { accessFlags := 4120, nameIndex := 245, descriptorIndex := 246, attributes := #[] }])
  fields := #[{ name := "E", type := .double, accessFlags := 25, slot := 0, constantValue := 0 }, { name := "PI", type := .double, accessFlags := 25, slot := 1, constantValue := 0 }, { name := "TAU", type := .double, accessFlags := 25, slot := 2, constantValue := 0 }, { name := "DEGREES_TO_RADIANS", type := .double, accessFlags := 26, slot := 3, constantValue := 0 }, { name := "RADIANS_TO_DEGREES", type := .double, accessFlags := 26, slot := 4, constantValue := 0 }, { name := "negativeZeroFloatBits", type := .long, accessFlags := 26, slot := 5, constantValue := 0 }, { name := "negativeZeroDoubleBits", type := .long, accessFlags := 26, slot := 6, constantValue := 0 }, { name := "twoToTheDoubleScaleUp", type := .double, accessFlags := 8, slot := 7, constantValue := 0 }, { name := "twoToTheDoubleScaleDown", type := .double, accessFlags := 8, slot := 8, constantValue := 0 }, { name := "$assertionsDisabled", type := .boolean, accessFlags := 4120, slot := 9, constantValue := 0 }]
  methods := #[k2m0, k2m1]
  instanceTypes := #[]
  staticTypes := #[.double, .double, .double, .double, .double, .long, .long, .double, .double, .boolean]
  resolved := Array.replicate 460 none
  statics := none }

def pool3 : Array CpInfo := pool [(27, .interfaceMethodref 28 29), (0, .class_ 30), (0, .nameAndType 31 32), (0, u "com/example/keyed_tensor/keyedtensor/array/Dataset"), (0, u "chunkCount"), (0, u "(JI)J"), (27, .class_ 61), (0, u "java/lang/Object"), (18, u "isInGrid"), (0, u "([J[J[I)Z")] 23

def k3c0 : Code := { maxStack := 6, maxLocals := 4, code := prog_10_method_7_code, exceptionTable := #[], attributes := #[] }
def k3m0 : Method := { name := "isInGrid", desc := "([J[J[I)Z", sig := { parameters := [(.array .long), (.array .long), (.array .int)], returnType := some .boolean }, accessFlags := 9, code := some k3c0 }
def k3c1 : Code := { maxStack := 6, maxLocals := 3, code := prog_10_method_8_code, exceptionTable := #[], attributes := #[] }
def k3m1 : Method := { name := "chunkCount", desc := "(JI)J", sig := { parameters := [.long, .int], returnType := some .long }, accessFlags := 10, code := some k3c1 }
/-- com/example/keyed_tensor/keyedtensor/array/Dataset -/
def k3 : Class := { plain "com/example/keyed_tensor/keyedtensor/array/Dataset" (some 0) with
  accessFlags := 1537
  interfaces := #[]
  cf := some (fileOf pool3 28 #[] #[{ accessFlags := 9, nameIndex := 80, descriptorIndex := 81, attributes := #[] }, { accessFlags := 10, nameIndex := 31, descriptorIndex := 32, attributes := #[] }] 1537 60 #[] #[])
  fields := #[]
  methods := #[k3m0, k3m1]
  instanceTypes := #[]
  staticTypes := #[]
  resolved := Array.replicate 105 none
  statics := none }

def pool4 : Array CpInfo := pool [(1, u "java/lang/Cloneable"), (0, .class_ 1), (0, u "java/lang/Object"), (0, .class_ 3)] 3

/-- java/lang/Cloneable -/
def k4 : Class := { plain "java/lang/Cloneable" (some 0) with
  accessFlags := 1537
  interfaces := #[]
  cf := some (fileOf pool4 2 #[] #[] 1537 4 #[] #[])
  fields := #[]
  methods := #[]
  instanceTypes := #[]
  staticTypes := #[]
  resolved := Array.replicate 8 none
  statics := none }

def pool5 : Array CpInfo := pool [(1, u "java/io/Serializable"), (0, .class_ 1), (0, u "java/lang/Object"), (0, .class_ 3)] 3

/-- java/io/Serializable -/
def k5 : Class := { plain "java/io/Serializable" (some 0) with
  accessFlags := 1537
  interfaces := #[]
  cf := some (fileOf pool5 2 #[] #[] 1537 4 #[] #[])
  fields := #[]
  methods := #[]
  instanceTypes := #[]
  staticTypes := #[]
  resolved := Array.replicate 8 none
  statics := none }

/-- the primitive byte -/
def k6 : Class := { plain "byte" none with kind := .primitive 'B', accessFlags := 0x411 }
/-- [B -/
def k7 : Class := { plain "[B" (some 0) with kind := .array 6 .byte, interfaces := #[4, 5], accessFlags := 1041 }

/-- the primitive int -/
def k8 : Class := { plain "int" none with kind := .primitive 'I', accessFlags := 0x411 }
/-- [I -/
def k9 : Class := { plain "[I" (some 0) with kind := .array 8 .int, interfaces := #[4, 5], accessFlags := 1041 }

/-- the primitive long -/
def k10 : Class := { plain "long" none with kind := .primitive 'J', accessFlags := 0x411 }
/-- [J -/
def k11 : Class := { plain "[J" (some 0) with kind := .array 10 .long, interfaces := #[4, 5], accessFlags := 1041 }

def heap : Heap := #[]
def classes : Array Class := #[k0, k1, k2, k3, k4, k5, k6, k7, k8, k9, k10, k11]
def interned : List (Array UInt16 × Addr) := []
def slotsUsed : Nat := 0
def theMethod : MethodId := ⟨1, 2⟩
def args0 : Array Value := #[.long 5, .long 300, .int 7, .long 9, .long 11, .int 3]
def aboutOver (below : List Frame) : State where
  vm := { classes := classes, interned := interned.toArray }
  heap := heap
  slotsUsed := slotsUsed
  threads := #[{ frames := .invoking theMethod args0 :: below }]
def below0 : List Frame := [.native { method := ⟨0, 0⟩, args := #[] }]
def about1 : State := aboutOver below0
def p0 : Program := .bare "" "" ""
def e0 : Env := launch0.env 0 0 0
theorem w_frames : about1.frames = Frame.invoking theMethod args0 :: below0 := rfl
set_option maxRecDepth 65536 in
theorem w_args : argsFit about1.vm theMethod args0 = true := by decide +kernel
set_option maxRecDepth 65536 in
theorem w_heap : heapFits about1 = true := by decide +kernel
set_option maxRecDepth 65536 in
theorem w_runnable : about1.curStatus? = some .runnable := by decide +kernel
set_option maxRecDepth 65536 in
theorem w_alone : about1.alone = true := by decide +kernel
set_option maxRecDepth 65536 in
theorem w_named : about1.methodNamed? x = some theMethod := by decide +kernel
set_option maxRecDepth 65536 in
theorem w_hears : about1.hears theMethod below0 = true := by decide +kernel
set_option maxRecDepth 65536 in
theorem w_ripe : about1.ripe theMethod args0 below0 = true := by decide +kernel
theorem w_running : about1.status = .running := rfl
set_option maxRecDepth 65536 in
theorem w_room : about1.hasRoom e0.platform room_1 = true :=
  launch0.hasRoom_least _ room_1 (by decide +kernel) (by decide +kernel) (by decide +kernel) (by decide +kernel) (by decide +kernel) (by decide +kernel)
theorem allAtoms_all (ts : List Jvm.Cond) (a : Array Jvm.Value) (st : Jvm.State) : (allAtoms ts).before a st = ts.all (fun c => c.before a st) := by
  induction ts with
  | nil => rfl
  | cons c t ih =>
    show (Jvm.Cond.and c (allAtoms t)).before a st = _
    rw [Jvm.Cond.before_and, ih, List.all_cons]
def words1 : List Jvm.Cond := Jvm.Cond.code x code maxLocals ret :: tables_1
/-- a 'code' word, met by the world's own term for the bytes: nothing is compared byte by byte -/
theorem code_word {y : MethodName} {bytes : ByteArray} {mx : Nat} {rt : Option FieldType} {a : Array Value} {s : State} {m : MethodId} {meth : Method} {c : Code} (h1 : s.methodNamed? y = some m) (h2 : s.vm.method? m = some meth) (h3 : meth.code = some c) (h4 : c.code = bytes)
    (h5 : (c.maxLocals == mx && c.exceptionTable.isEmpty && decide (c.maxStack ≤ mostOperands) && decide (meth.sig.returnType = rt) && !meth.locks && decide (parseMethodDescriptor y.desc = some meth.sig)) = true) : (Jvm.Cond.code y bytes mx rt).before a s = true := by
  simp only [Bool.and_eq_true, beq_iff_eq, Bool.not_eq_true', decide_eq_true_eq] at h5
  obtain ⟨⟨⟨⟨⟨g1, g2⟩, g3⟩, g4⟩, g5⟩, g6⟩ := h5
  simp [Cond.before, Cond.holds, Cond.value, h1, h2, h3, h4, g1, g2, g3, g4, g5, g6]
def isCode : Jvm.Cond → Bool
  | .code _ _ _ _ => true
  | _ => false
theorem all_split {L : List Jvm.Cond} {P : Jvm.Cond → Bool} (h1 : L.all (fun c => isCode c || P c) = true) (h2 : ∀ c ∈ L.filter isCode, P c = true) : L.all P = true := by
  refine List.all_eq_true.mpr fun c hc => ?_
  have h := List.all_eq_true.mp h1 c hc
  rcases Bool.eq_false_or_eq_true (isCode c) with hi | hi
  · exact h2 c (List.mem_filter.mpr ⟨hc, hi⟩)
  · simpa [hi] using h
set_option maxRecDepth 65536 in
theorem w_c0 : (Jvm.Cond.code x code maxLocals ret).before args0 about1 = true := code_word (m := ⟨1, 2⟩) (meth := k1m2) (c := k1c2) (by decide +kernel) rfl rfl rfl (by decide +kernel)
set_option maxRecDepth 65536 in
theorem w_c1 : (Jvm.Cond.code ({ cls := "java/lang/Math", name := "max", desc := "(II)I" } : Jvm.MethodName) jdk_29_method_65_code (2 : Nat) (Option.some Jvm.ClassFile.FieldType.int)).before args0 about1 = true := code_word (m := ⟨2, 1⟩) (meth := k2m1) (c := k2c1) (by decide +kernel) rfl rfl rfl (by decide +kernel)
set_option maxRecDepth 65536 in
theorem w_c2 : (Jvm.Cond.code ({ cls := "com/example/keyed_tensor/keyedtensor/array/Dataset", name := "isInGrid", desc := "([J[J[I)Z" } : Jvm.MethodName) prog_10_method_7_code (4 : Nat) (Option.some Jvm.ClassFile.FieldType.boolean)).before args0 about1 = true := code_word (m := ⟨3, 0⟩) (meth := k3m0) (c := k3c0) (by decide +kernel) rfl rfl rfl (by decide +kernel)
set_option maxRecDepth 65536 in
theorem w_c3 : (Jvm.Cond.code ({ cls := "com/example/keyed_tensor/keyedtensor/array/DatasetIsInGridPinLaw", name := "inDim", desc := "(JJI)Z" } : Jvm.MethodName) method_2_code (5 : Nat) (Option.some Jvm.ClassFile.FieldType.boolean)).before args0 about1 = true := code_word (m := ⟨1, 1⟩) (meth := k1m1) (c := k1c1) (by decide +kernel) rfl rfl rfl (by decide +kernel)
set_option maxRecDepth 65536 in
theorem w_c4 : (Jvm.Cond.code ({ cls := "com/example/keyed_tensor/keyedtensor/array/Dataset", name := "chunkCount", desc := "(JI)J" } : Jvm.MethodName) prog_10_method_8_code (3 : Nat) (Option.some Jvm.ClassFile.FieldType.long)).before args0 about1 = true := code_word (m := ⟨3, 1⟩) (meth := k3m1) (c := k3c1) (by decide +kernel) rfl rfl rfl (by decide +kernel)
def codes1 : List Jvm.Cond := [Jvm.Cond.code x code maxLocals ret, Jvm.Cond.code ({ cls := "java/lang/Math", name := "max", desc := "(II)I" } : Jvm.MethodName) jdk_29_method_65_code (2 : Nat) (Option.some Jvm.ClassFile.FieldType.int), Jvm.Cond.code ({ cls := "com/example/keyed_tensor/keyedtensor/array/Dataset", name := "isInGrid", desc := "([J[J[I)Z" } : Jvm.MethodName) prog_10_method_7_code (4 : Nat) (Option.some Jvm.ClassFile.FieldType.boolean), Jvm.Cond.code ({ cls := "com/example/keyed_tensor/keyedtensor/array/DatasetIsInGridPinLaw", name := "inDim", desc := "(JJI)Z" } : Jvm.MethodName) method_2_code (5 : Nat) (Option.some Jvm.ClassFile.FieldType.boolean), Jvm.Cond.code ({ cls := "com/example/keyed_tensor/keyedtensor/array/Dataset", name := "chunkCount", desc := "(JI)J" } : Jvm.MethodName) prog_10_method_8_code (3 : Nat) (Option.some Jvm.ClassFile.FieldType.long)]
set_option maxRecDepth 65536 in
theorem codes_eq : words1.filter isCode = codes1 := rfl
theorem w_codes : ∀ c ∈ words1.filter isCode, c.before args0 about1 = true := by
  rw [codes_eq]
  intro c hc
  simp only [codes1, List.mem_cons, List.not_mem_nil, or_false] at hc
  rcases hc with rfl | rfl | rfl | rfl | rfl
  · exact w_c0
  · exact w_c1
  · exact w_c2
  · exact w_c3
  · exact w_c4
set_option maxRecDepth 65536 in
theorem w_t1 : words1.all (fun c => isCode c || c.before args0 about1) = true := by decide +kernel
theorem w_tables : (allAtoms (Jvm.Cond.code x code maxLocals ret :: tables_1)).before args0 about1 = true := by
  rw [allAtoms_all]
  show words1.all (fun c => c.before args0 about1) = true
  refine all_split ?_ w_codes
  rw [w_t1]
set_option maxRecDepth 65536 in
theorem w_case : (Jvm.Cond.and given_1 narrow_1).before args0 about1 = true := by decide +kernel
theorem w_applies : (headSpec (Jvm.Cond.code x code maxLocals ret :: tables_1) room_1).applies x e0.platform about1 = true :=
  (Spec.applies_iff w_frames).mpr ⟨w_running, w_runnable, w_alone, w_named, w_hears, w_ripe, w_room, w_tables⟩
theorem atStart : AtStart classFile x code maxLocals ret World_1 tables_1 room_1 Calls_1 rest_1 Pre_1 launch0 p0 e0 about1 theMethod args0 below0 :=
  ⟨lists_1, trivial, launch0.admits_env _ _ _, launch0.least_env, fairChoices_fair.cas, fairChoices_fair.clock, w_frames, w_args, w_heap, w_applies, trivial, trivial, w_case⟩
end start1
theorem witness_1 : WitnessClaimed_1 := ⟨start1.p0, start1.e0, start1.about1, start1.theMethod, start1.args0, start1.below0, start1.atStart⟩
end Jvm.Pilot.@@N@@
