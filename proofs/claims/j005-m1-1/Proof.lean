import JvmDerived
import JvmDerived.Pilot.@@N@@Statement
import JvmDerived.Pilot.@@N@@Code
set_option linter.unusedVariables false
set_option linter.unusedSimpArgs false
namespace Jvm.OwnKit
open Sem ClassFile Op Lib Jvm.Stand Jvm.Free Jvm.LawKit Jvm.RoadKit
/-! A small program logic over the library's laws of one family: Wp says that from a frame on the method comes back with Q. -/
def Cx (p : Program) (s : State) (m : MethodId) (meth : Method) (c : Code) (Z : State) (my : MethodName) (B : ByteArray) (ml : Nat) (ret : Option FieldType) : Prop :=
  p.tables.exec = Jvm.exec ∧ c.code = B ∧ c.maxLocals = ml ∧ Z.Warmed39 s.vm ∧ s.vm.findClass my.cls = some m.cls ∧ meth.name = my.name ∧ meth.sig.returnType = ret ∧ meth.locks = false
def Wp (l : Launch) (Z : State) (R : Room) (my : MethodName) (B : ByteArray) (ml : Nat) (ret : Option FieldType) (n0 : Nat) (Q : Option Value → Heap → Prop) (h : Heap) (cells slots pc : Nat) (L : Array Slot) (S : List Value) : Prop :=
  ∀ (p : Program) (e : Env) (s : State) (m : MethodId) (args : Array Value) (below : List Frame) (meth : Method) (c : Code) (T : State) (locs : List Loc),
    Cx p s m meth c Z my B ml ret → Stand p l e R s m args below meth c T locs cells slots → T.heap = h → Fr n0 locs →
    ∃ (s₂ : State) (o : Outcome), Steps p.tables e below (T.setTop (mkF m pc L S)) s₂ ∧ s₂.status = .running ∧ Ended s₂ below o ∧ ∃ v L', o = .returned v ∧ (Q v s₂.heap ∧ Fr n0 L') ∧ FrameEnd s o s₂ L' R.cells R.slots
/-- the contract of a method at given arguments and heap -/
def Met (l : Launch) (Z : State) (my : MethodName) (B : ByteArray) (ml : Nat) (ret : Option FieldType) (rm : Room) (as : Array Value) (h0 : Heap) (n0 : Nat) (Q : Option Value → Heap → Prop) : Prop :=
  ∀ ws : List Jvm.Cond, MetFree l my (head1 (Jvm.Cond.code my B ml ret :: ws) rm) (fun a U => a = as ∧ Z.Warmed39 U.vm ∧ U.heap = h0) (fun _ _ _ _ _ => True)
    (fun _ U o U' => ∃ v L, o = .returned v ∧ (Q v U'.heap ∧ Fr n0 L) ∧ FrameEnd U o U' L rm.cells rm.slots)
section Base
variable {l : Launch} {Z : State} {R : Room} {my : MethodName} {B : ByteArray} {ml : Nat} {ret : Option FieldType} {n0 : Nat} {Q : Option Value → Heap → Prop} {h : Heap} {cells slots pc : Nat} {L : Array Slot} {S : List Value} {a0 : Array Value}
theorem Met.of {as : Array Value} {L0 : Array Slot} (hpl : plainName my.cls = true) (ef : ∀ m, entryFrame m as ml = mkF m 0 L0 []) (body : Wp l Z R my B ml ret n0 Q h 0 0 0 L0 []) : Met l Z my B ml ret R as h n0 Q := by
  intro ws
  refine MetFree.of_bodySF (plainFor_of_name hpl) hisR ?_
  intro p e s m args below meth c s₁ Bd hml0 hP hK
  obtain ⟨rfl, hZ, hh⟩ := hP
  have X0 := Stand.of_body Bd
  have e0 : s₁.heap = h := by rw [← hh, Bd.state]; rfl
  obtain ⟨s₂, o, k1, k2⟩ := body p e s m _ below meth c s₁ [] ⟨Bd.exec, Bd.bytes, hml0, hZ, findClass_of_methodNamed Bd.named, (name_of_methodNamed Bd.named Bd.method).1, Bd.returns, Bd.notSynchronized⟩ X0 e0 (Fr.nil n0)
  exact ⟨s₂, o, castTop (ef m) k1, k2⟩
theorem Met.mono {rm : Room} {as : Array Value} {Q' : Option Value → Heap → Prop} (M : Met l Z my B ml ret rm as h n0 Q) (hq : ∀ v h', Q v h' → Q' v h') : Met l Z my B ml ret rm as h n0 Q' := by
  intro ws p e ha hc hk s m args below hf happ hP hK
  obtain ⟨n, o, h1, h2, h3, v, L, rfl, ⟨q1, q2⟩, q3⟩ := M ws p e ha hc hk s m args below hf happ hP hK
  exact ⟨n, _, h1, h2, h3, v, L, rfl, ⟨hq _ _ q1, q2⟩, q3⟩
theorem Wp.mono {Q' : Option Value → Heap → Prop} (W : Wp l Z R my B ml ret n0 Q h cells slots pc L S) (hq : ∀ v h', Q v h' → Q' v h') : Wp l Z R my B ml ret n0 Q' h cells slots pc L S := by
  intro p e s m args below meth c T locs K X eT N
  obtain ⟨s₂, o, k1, k2, k3, v, L', k4, k5, k6⟩ := W p e s m args below meth c T locs K X eT N
  exact ⟨s₂, o, k1, k2, k3, v, L', k4, ⟨hq _ _ k5.1, k5.2⟩, k6⟩
/-- the law's own body may end within any frame -/
theorem Wp.plain {pc' : Nat} {L' : Array Slot} {S' : List Value}
    (st : ∀ {p : Program} {e : Env} {s : State} {m : MethodId} {args : Array Value} {below : List Frame} {meth : Method} {c : Code} {T : State} {locs : List Loc}, Cx p s m meth c Z my B ml ret → Stand p l e R s m args below meth c T locs cells slots → T.heap = h → ∀ target, Steps p.tables e below (T.setTop (mkF m pc' L' S')) target → Steps p.tables e below (T.setTop (mkF m pc L S)) target)
    (r : Wp l Z R my B ml ret n0 Q h cells slots pc' L' S') : Wp l Z R my B ml ret n0 Q h cells slots pc L S := by
  intro p e s m args below meth c T locs K X eT N
  obtain ⟨s₂, o, k1, k2⟩ := r p e s m args below meth c T locs K X eT N
  exact ⟨s₂, o, st K X eT _ k1, k2⟩
theorem Wp.moved {pc' : Nat} {L' : Array Slot} {S' : List Value}
    (st : ∀ {p : Program} {e : Env} {s : State} {m : MethodId} {args : Array Value} {below : List Frame} {meth : Method} {c : Code} {T : State} {locs : List Loc}, Cx p s m meth c Z my B ml ret → Stand p l e R s m args below meth c T locs cells slots → T.heap = h → ∃ T', Stand p l e R s m args below meth c T' locs cells slots ∧ T'.heap = h ∧ ∀ target, Steps p.tables e below (T'.setTop (mkF m pc' L' S')) target → Steps p.tables e below (T.setTop (mkF m pc L S)) target)
    (r : Wp l Z R my B ml ret n0 Q h cells slots pc' L' S') : Wp l Z R my B ml ret n0 Q h cells slots pc L S := by
  intro p e s m args below meth c T locs K X eT N
  obtain ⟨T', X', e', st'⟩ := st K X eT
  obtain ⟨s₂, o, k1, k2⟩ := r p e s m args below meth c T' locs K X' e' N
  exact ⟨s₂, o, st' _ k1, k2⟩
/-! plain steps -/
theorem Wp.iloadN {k : Fin 4} {v : Int32} {pc' : Nat} (hd : decode B pc = .ok (.iload_n k, 1)) (hl : L[k.val]? = some (.val (.int v))) (hp : pc + 1 = pc') (r : Wp l Z R my B ml ret n0 Q h cells slots pc' L (.int v :: S)) : Wp l Z R my B ml ret n0 Q h cells slots pc L S := by
  subst hp; exact Wp.plain (fun K X _ target kt => XS.iloadN X.here K.1 rfl (hb K.2.1 hd) hl kt) r
theorem Wp.iload {k : Nat} {v : Int32} {pc' : Nat} (hd : decode B pc = .ok (.iload k, 2)) (hl : L[k]? = some (.val (.int v))) (hp : pc + 2 = pc') (r : Wp l Z R my B ml ret n0 Q h cells slots pc' L (.int v :: S)) : Wp l Z R my B ml ret n0 Q h cells slots pc L S := by
  subst hp; exact Wp.plain (fun K X _ target kt => XS.iload X.here K.1 rfl (hb K.2.1 hd) hl kt) r
theorem Wp.lloadN {k : Fin 4} {v : Int64} {pc' : Nat} (hd : decode B pc = .ok (.lload_n k, 1)) (hl : L[k.val]? = some (.val (.long v))) (hp : pc + 1 = pc') (r : Wp l Z R my B ml ret n0 Q h cells slots pc' L (.long v :: S)) : Wp l Z R my B ml ret n0 Q h cells slots pc L S := by
  subst hp; exact Wp.plain (fun K X _ target kt => XT.lloadN X.here K.1 rfl (hb K.2.1 hd) hl kt) r
theorem Wp.lload {k : Nat} {v : Int64} {pc' : Nat} (hd : decode B pc = .ok (.lload k, 2)) (hl : L[k]? = some (.val (.long v))) (hp : pc + 2 = pc') (r : Wp l Z R my B ml ret n0 Q h cells slots pc' L (.long v :: S)) : Wp l Z R my B ml ret n0 Q h cells slots pc L S := by
  subst hp; exact Wp.plain (fun K X _ target kt => XT.lload X.here K.1 rfl (hb K.2.1 hd) hl kt) r
theorem Wp.aloadN {k : Fin 4} {v : Value} {pc' : Nat} (hd : decode B pc = .ok (.aload_n k, 1)) (hl : L[k.val]? = some (.val v)) (hv : v.isRef = true) (hp : pc + 1 = pc') (r : Wp l Z R my B ml ret n0 Q h cells slots pc' L (v :: S)) : Wp l Z R my B ml ret n0 Q h cells slots pc L S := by
  subst hp; exact Wp.plain (fun K X _ target kt => XS.aloadN X.here K.1 rfl (hb K.2.1 hd) hl hv kt) r
theorem Wp.aload {k : Nat} {v : Value} {pc' : Nat} (hd : decode B pc = .ok (.aload k, 2)) (hl : L[k]? = some (.val v)) (hv : v.isRef = true) (hp : pc + 2 = pc') (r : Wp l Z R my B ml ret n0 Q h cells slots pc' L (v :: S)) : Wp l Z R my B ml ret n0 Q h cells slots pc L S := by
  subst hp; exact Wp.plain (fun K X _ target kt => XS.aload X.here K.1 rfl (hb K.2.1 hd) hl hv kt) r
theorem Wp.iconst {i : Int} {z : Int32} {pc' : Nat} (hd : decode B pc = .ok (.iconst i, 1)) (hz : Int32.ofInt i = z) (hp : pc + 1 = pc') (r : Wp l Z R my B ml ret n0 Q h cells slots pc' L (.int z :: S)) : Wp l Z R my B ml ret n0 Q h cells slots pc L S := by
  subst hp hz; exact Wp.plain (fun K X _ target kt => XS.iconst X.here K.1 rfl (hb K.2.1 hd) kt) r
theorem Wp.bipush {i : Int} {z : Int32} {pc' : Nat} (hd : decode B pc = .ok (.bipush i, 2)) (hz : (Int8.ofInt i).toInt32 = z) (hp : pc + 2 = pc') (r : Wp l Z R my B ml ret n0 Q h cells slots pc' L (.int z :: S)) : Wp l Z R my B ml ret n0 Q h cells slots pc L S := by
  subst hp hz; exact Wp.plain (fun K X _ target kt => XS.bipush X.here K.1 rfl (hb K.2.1 hd) kt) r
theorem Wp.sipush {i : Int} {z : Int32} {pc' : Nat} (hd : decode B pc = .ok (.sipush i, 3)) (hz : (Int16.ofInt i).toInt32 = z) (hp : pc + 3 = pc') (r : Wp l Z R my B ml ret n0 Q h cells slots pc' L (.int z :: S)) : Wp l Z R my B ml ret n0 Q h cells slots pc L S := by
  subst hp hz; exact Wp.plain (fun K X _ target kt => XS.sipush X.here K.1 rfl (hb K.2.1 hd) kt) r
theorem Wp.lconst {k : Fin 2} {z : Int64} {pc' : Nat} (hd : decode B pc = .ok (.lconst k, 1)) (hz : Int64.ofNat k = z) (hp : pc + 1 = pc') (r : Wp l Z R my B ml ret n0 Q h cells slots pc' L (.long z :: S)) : Wp l Z R my B ml ret n0 Q h cells slots pc L S := by
  subst hp hz; exact Wp.plain (fun K X _ target kt => XT.lconst X.here K.1 rfl (hb K.2.1 hd) kt) r
theorem Wp.aconstNull {pc' : Nat} (hd : decode B pc = .ok (.aconst_null, 1)) (hp : pc + 1 = pc') (r : Wp l Z R my B ml ret n0 Q h cells slots pc' L (.null :: S)) : Wp l Z R my B ml ret n0 Q h cells slots pc L S := by
  subst hp; exact Wp.plain (fun K X _ target kt => XS.aconstNull X.here K.1 rfl (hb K.2.1 hd) kt) r
theorem Wp.ldcInt {index : Nat} {v : Int32} {pc' : Nat} (w : (Jvm.Cond.constant my.cls index v).before a0 Z = true) (hd : decode B pc = .ok (.ldc index, 2)) (hp : pc + 2 = pc') (r : Wp l Z R my B ml ret n0 Q h cells slots pc' L (.int v :: S)) : Wp l Z R my B ml ret n0 Q h cells slots pc L S := by
  subst hp; exact Wp.plain (fun K X _ target kt => X.ldcInt K.1 K.2.2.2.2.1 (mv K.2.2.2.1 w) (g := mkF _ pc L S) rfl (hb K.2.1 hd) target kt) r
theorem Wp.ldc2Long {index : Nat} {v : Int64} {pc' : Nat} (w : (Jvm.Cond.constantLong my.cls index v).before a0 Z = true) (hd : decode B pc = .ok (.ldc2_w index, 3)) (hp : pc + 3 = pc') (r : Wp l Z R my B ml ret n0 Q h cells slots pc' L (.long v :: S)) : Wp l Z R my B ml ret n0 Q h cells slots pc L S := by
  subst hp; exact Wp.plain (fun K X _ target kt => X.ldc2Long K.1 K.2.2.2.2.1 (mv K.2.2.2.1 w) (g := mkF _ pc L S) rfl (hb K.2.1 hd) target kt) r
theorem Wp.istoreN {k : Fin 4} {v : Int32} {L' : Array Slot} {pc' : Nat} (hd : decode B pc = .ok (.istore_n k, 1)) (hl : storeLocals L k.val (.int v) = some L') (hp : pc + 1 = pc') (r : Wp l Z R my B ml ret n0 Q h cells slots pc' L' S) : Wp l Z R my B ml ret n0 Q h cells slots pc L (.int v :: S) := by
  subst hp; exact Wp.plain (fun K X _ target kt => XS.istoreN X.here K.1 rfl (hb K.2.1 hd) rfl hl kt) r
theorem Wp.istore {k : Nat} {v : Int32} {L' : Array Slot} {pc' : Nat} (hd : decode B pc = .ok (.istore k, 2)) (hl : storeLocals L k (.int v) = some L') (hp : pc + 2 = pc') (r : Wp l Z R my B ml ret n0 Q h cells slots pc' L' S) : Wp l Z R my B ml ret n0 Q h cells slots pc L (.int v :: S) := by
  subst hp; exact Wp.plain (fun K X _ target kt => XS.istore X.here K.1 rfl (hb K.2.1 hd) rfl hl kt) r
theorem Wp.lstoreN {k : Fin 4} {v : Int64} {L' : Array Slot} {pc' : Nat} (hd : decode B pc = .ok (.lstore_n k, 1)) (hl : storeLocals L k.val (.long v) = some L') (hp : pc + 1 = pc') (r : Wp l Z R my B ml ret n0 Q h cells slots pc' L' S) : Wp l Z R my B ml ret n0 Q h cells slots pc L (.long v :: S) := by
  subst hp; exact Wp.plain (fun K X _ target kt => XT.lstoreN X.here K.1 rfl (hb K.2.1 hd) rfl hl kt) r
theorem Wp.lstore {k : Nat} {v : Int64} {L' : Array Slot} {pc' : Nat} (hd : decode B pc = .ok (.lstore k, 2)) (hl : storeLocals L k (.long v) = some L') (hp : pc + 2 = pc') (r : Wp l Z R my B ml ret n0 Q h cells slots pc' L' S) : Wp l Z R my B ml ret n0 Q h cells slots pc L (.long v :: S) := by
  subst hp; exact Wp.plain (fun K X _ target kt => XT.lstore X.here K.1 rfl (hb K.2.1 hd) rfl hl kt) r
theorem Wp.astoreN {k : Fin 4} {v : Value} {L' : Array Slot} {pc' : Nat} (hd : decode B pc = .ok (.astore_n k, 1)) (hv : v.isRef = true) (hl : storeLocals L k.val v = some L') (hp : pc + 1 = pc') (r : Wp l Z R my B ml ret n0 Q h cells slots pc' L' S) : Wp l Z R my B ml ret n0 Q h cells slots pc L (v :: S) := by
  subst hp; exact Wp.plain (fun K X _ target kt => XS.astoreN X.here K.1 rfl (hb K.2.1 hd) rfl hv hl kt) r
theorem Wp.astore {k : Nat} {v : Value} {L' : Array Slot} {pc' : Nat} (hd : decode B pc = .ok (.astore k, 2)) (hv : v.isRef = true) (hl : storeLocals L k v = some L') (hp : pc + 2 = pc') (r : Wp l Z R my B ml ret n0 Q h cells slots pc' L' S) : Wp l Z R my B ml ret n0 Q h cells slots pc L (v :: S) := by
  subst hp; exact Wp.plain (fun K X _ target kt => XS.astore X.here K.1 rfl (hb K.2.1 hd) rfl hv hl kt) r
theorem Wp.iinc {k : Nat} {cst : Int} {x z : Int32} {L' : Array Slot} {pc' : Nat} (hd : decode B pc = .ok (.iinc k cst, 3)) (hl : L[k]? = some (.val (.int x))) (hz : x + Int32.ofInt cst = z) (hl' : storeLocals L k (.int z) = some L') (hp : pc + 3 = pc') (r : Wp l Z R my B ml ret n0 Q h cells slots pc' L' S) : Wp l Z R my B ml ret n0 Q h cells slots pc L S := by
  subst hp hz; exact Wp.plain (fun K X _ target kt => XS.iinc X.here K.1 rfl (hb K.2.1 hd) hl hl' kt) r
theorem Wp.dup {v : Value} {pc' : Nat} (hd : decode B pc = .ok (.dup, 1)) (hc : v.category = 1) (hp : pc + 1 = pc') (r : Wp l Z R my B ml ret n0 Q h cells slots pc' L (v :: v :: S)) : Wp l Z R my B ml ret n0 Q h cells slots pc L (v :: S) := by
  subst hp; exact Wp.plain (fun K X _ target kt => XS.dup X.here K.1 rfl (hb K.2.1 hd) rfl hc kt) r
theorem Wp.dupX1 {v w : Value} {pc' : Nat} (hd : decode B pc = .ok (.dup_x1, 1)) (hc : v.category = 1) (hc' : w.category = 1) (hp : pc + 1 = pc') (r : Wp l Z R my B ml ret n0 Q h cells slots pc' L (v :: w :: v :: S)) : Wp l Z R my B ml ret n0 Q h cells slots pc L (v :: w :: S) := by
  subst hp; exact Wp.plain (fun K X _ target kt => XT.dupX1 X.here K.1 rfl (hb K.2.1 hd) rfl hc hc' kt) r
theorem Wp.dup2 {v w : Value} {pc' : Nat} (hd : decode B pc = .ok (.dup2, 1)) (hc : v.category = 1) (hc' : w.category = 1) (hp : pc + 1 = pc') (r : Wp l Z R my B ml ret n0 Q h cells slots pc' L (v :: w :: v :: w :: S)) : Wp l Z R my B ml ret n0 Q h cells slots pc L (v :: w :: S) := by
  subst hp; exact Wp.plain (fun K X _ target kt => XT.dup2 X.here K.1 rfl (hb K.2.1 hd) rfl hc hc' kt) r
theorem Wp.dupX2 {u v w : Value} {pc' : Nat} (hd : decode B pc = .ok (.dup_x2, 1)) (hc : u.category = 1) (hc' : v.category = 1) (hc'' : w.category = 1) (hp : pc + 1 = pc') (r : Wp l Z R my B ml ret n0 Q h cells slots pc' L (u :: v :: w :: u :: S)) : Wp l Z R my B ml ret n0 Q h cells slots pc L (u :: v :: w :: S) := by
  subst hp
  refine Wp.plain (fun {p e s m args below meth c T locs} K X _ target kt => ?_) r
  have hx := K.1
  have hd' : decode c.code pc = .ok (.dup_x2, 1) := hb K.2.1 hd
  show Steps p.tables e below (T.setTop { method := m, pc := pc, locals := L, stack := u :: v :: w :: S, locked := none }) _
  jvm_step X.here [X.here.top, hx, hd', dup_x2.wp_sem, hc, hc', hc'']
  exact kt
theorem Wp.pop {v : Value} {pc' : Nat} (hd : decode B pc = .ok (.pop, 1)) (hc : v.category = 1) (hp : pc + 1 = pc') (r : Wp l Z R my B ml ret n0 Q h cells slots pc' L S) : Wp l Z R my B ml ret n0 Q h cells slots pc L (v :: S) := by
  subst hp; exact Wp.plain (fun K X _ target kt => XT.pop X.here K.1 rfl (hb K.2.1 hd) rfl hc kt) r
theorem Wp.iadd {x y z : Int32} {pc' : Nat} (hd : decode B pc = .ok (.iadd, 1)) (hz : x + y = z) (hp : pc + 1 = pc') (r : Wp l Z R my B ml ret n0 Q h cells slots pc' L (.int z :: S)) : Wp l Z R my B ml ret n0 Q h cells slots pc L (.int y :: .int x :: S) := by
  subst hp hz; exact Wp.plain (fun K X _ target kt => XS.iadd X.here K.1 rfl (hb K.2.1 hd) rfl kt) r
theorem Wp.isub {x y z : Int32} {pc' : Nat} (hd : decode B pc = .ok (.isub, 1)) (hz : x - y = z) (hp : pc + 1 = pc') (r : Wp l Z R my B ml ret n0 Q h cells slots pc' L (.int z :: S)) : Wp l Z R my B ml ret n0 Q h cells slots pc L (.int y :: .int x :: S) := by
  subst hp hz; exact Wp.plain (fun K X _ target kt => XS.isub X.here K.1 rfl (hb K.2.1 hd) rfl kt) r
theorem Wp.iand {x y z : Int32} {pc' : Nat} (hd : decode B pc = .ok (.iand, 1)) (hz : x &&& y = z) (hp : pc + 1 = pc') (r : Wp l Z R my B ml ret n0 Q h cells slots pc' L (.int z :: S)) : Wp l Z R my B ml ret n0 Q h cells slots pc L (.int y :: .int x :: S) := by
  subst hp hz; exact Wp.plain (fun K X _ target kt => XS.iand X.here K.1 rfl (hb K.2.1 hd) rfl kt) r
theorem Wp.imul {x y z : Int32} {pc' : Nat} (hd : decode B pc = .ok (.imul, 1)) (hz : x * y = z) (hp : pc + 1 = pc') (r : Wp l Z R my B ml ret n0 Q h cells slots pc' L (.int z :: S)) : Wp l Z R my B ml ret n0 Q h cells slots pc L (.int y :: .int x :: S) := by
  subst hp hz; exact Wp.plain (fun K X _ target kt => XS.imul X.here K.1 rfl (hb K.2.1 hd) rfl kt) r
theorem Wp.ior {x y z : Int32} {pc' : Nat} (hd : decode B pc = .ok (.ior, 1)) (hz : x ||| y = z) (hp : pc + 1 = pc') (r : Wp l Z R my B ml ret n0 Q h cells slots pc' L (.int z :: S)) : Wp l Z R my B ml ret n0 Q h cells slots pc L (.int y :: .int x :: S) := by
  subst hp hz; exact Wp.plain (fun K X _ target kt => XT.ior X.here K.1 rfl (hb K.2.1 hd) rfl kt) r
theorem Wp.ixor {x y z : Int32} {pc' : Nat} (hd : decode B pc = .ok (.ixor, 1)) (hz : x ^^^ y = z) (hp : pc + 1 = pc') (r : Wp l Z R my B ml ret n0 Q h cells slots pc' L (.int z :: S)) : Wp l Z R my B ml ret n0 Q h cells slots pc L (.int y :: .int x :: S) := by
  subst hp hz; exact Wp.plain (fun K X _ target kt => XT.ixor X.here K.1 rfl (hb K.2.1 hd) rfl kt) r
theorem Wp.ishl {x y z : Int32} {pc' : Nat} (hd : decode B pc = .ok (.ishl, 1)) (hz : x <<< (y &&& 31) = z) (hp : pc + 1 = pc') (r : Wp l Z R my B ml ret n0 Q h cells slots pc' L (.int z :: S)) : Wp l Z R my B ml ret n0 Q h cells slots pc L (.int y :: .int x :: S) := by
  subst hp hz; exact Wp.plain (fun K X _ target kt => XT.ishl X.here K.1 rfl (hb K.2.1 hd) rfl kt) r
theorem Wp.ishr {x y z : Int32} {pc' : Nat} (hd : decode B pc = .ok (.ishr, 1)) (hz : x >>> (y &&& 31) = z) (hp : pc + 1 = pc') (r : Wp l Z R my B ml ret n0 Q h cells slots pc' L (.int z :: S)) : Wp l Z R my B ml ret n0 Q h cells slots pc L (.int y :: .int x :: S) := by
  subst hp hz; exact Wp.plain (fun K X _ target kt => XT.ishr X.here K.1 rfl (hb K.2.1 hd) rfl kt) r
theorem Wp.iushr {x y z : Int32} {pc' : Nat} (hd : decode B pc = .ok (.iushr, 1)) (hz : XT.ushr x y = z) (hp : pc + 1 = pc') (r : Wp l Z R my B ml ret n0 Q h cells slots pc' L (.int z :: S)) : Wp l Z R my B ml ret n0 Q h cells slots pc L (.int y :: .int x :: S) := by
  subst hp hz; exact Wp.plain (fun K X _ target kt => XT.iushr X.here K.1 rfl (hb K.2.1 hd) rfl kt) r
theorem Wp.ladd {x y z : Int64} {pc' : Nat} (hd : decode B pc = .ok (.ladd, 1)) (hz : x + y = z) (hp : pc + 1 = pc') (r : Wp l Z R my B ml ret n0 Q h cells slots pc' L (.long z :: S)) : Wp l Z R my B ml ret n0 Q h cells slots pc L (.long y :: .long x :: S) := by
  subst hp hz; exact Wp.plain (fun K X _ target kt => XT.ladd X.here K.1 rfl (hb K.2.1 hd) rfl kt) r
theorem Wp.lsub {x y z : Int64} {pc' : Nat} (hd : decode B pc = .ok (.lsub, 1)) (hz : x - y = z) (hp : pc + 1 = pc') (r : Wp l Z R my B ml ret n0 Q h cells slots pc' L (.long z :: S)) : Wp l Z R my B ml ret n0 Q h cells slots pc L (.long y :: .long x :: S) := by
  subst hp hz; exact Wp.plain (fun K X _ target kt => XT.lsub X.here K.1 rfl (hb K.2.1 hd) rfl kt) r
theorem Wp.lmul {x y z : Int64} {pc' : Nat} (hd : decode B pc = .ok (.lmul, 1)) (hz : x * y = z) (hp : pc + 1 = pc') (r : Wp l Z R my B ml ret n0 Q h cells slots pc' L (.long z :: S)) : Wp l Z R my B ml ret n0 Q h cells slots pc L (.long y :: .long x :: S) := by
  subst hp hz; exact Wp.plain (fun K X _ target kt => XT.lmul X.here K.1 rfl (hb K.2.1 hd) rfl kt) r
theorem Wp.land {x y z : Int64} {pc' : Nat} (hd : decode B pc = .ok (.land, 1)) (hz : x &&& y = z) (hp : pc + 1 = pc') (r : Wp l Z R my B ml ret n0 Q h cells slots pc' L (.long z :: S)) : Wp l Z R my B ml ret n0 Q h cells slots pc L (.long y :: .long x :: S) := by
  subst hp hz; exact Wp.plain (fun K X _ target kt => XT.land X.here K.1 rfl (hb K.2.1 hd) rfl kt) r
theorem Wp.lor {x y z : Int64} {pc' : Nat} (hd : decode B pc = .ok (.lor, 1)) (hz : x ||| y = z) (hp : pc + 1 = pc') (r : Wp l Z R my B ml ret n0 Q h cells slots pc' L (.long z :: S)) : Wp l Z R my B ml ret n0 Q h cells slots pc L (.long y :: .long x :: S) := by
  subst hp hz; exact Wp.plain (fun K X _ target kt => XT.lor X.here K.1 rfl (hb K.2.1 hd) rfl kt) r
theorem Wp.lxor {x y z : Int64} {pc' : Nat} (hd : decode B pc = .ok (.lxor, 1)) (hz : x ^^^ y = z) (hp : pc + 1 = pc') (r : Wp l Z R my B ml ret n0 Q h cells slots pc' L (.long z :: S)) : Wp l Z R my B ml ret n0 Q h cells slots pc L (.long y :: .long x :: S) := by
  subst hp hz; exact Wp.plain (fun K X _ target kt => XT.lxor X.here K.1 rfl (hb K.2.1 hd) rfl kt) r
theorem Wp.i2l {x : Int32} {z : Int64} {pc' : Nat} (hd : decode B pc = .ok (.i2l, 1)) (hz : x.toInt64 = z) (hp : pc + 1 = pc') (r : Wp l Z R my B ml ret n0 Q h cells slots pc' L (.long z :: S)) : Wp l Z R my B ml ret n0 Q h cells slots pc L (.int x :: S) := by
  subst hp hz; exact Wp.plain (fun K X _ target kt => XT.i2l X.here K.1 rfl (hb K.2.1 hd) rfl kt) r
theorem Wp.l2i {x : Int64} {z : Int32} {pc' : Nat} (hd : decode B pc = .ok (.l2i, 1)) (hz : x.toInt32 = z) (hp : pc + 1 = pc') (r : Wp l Z R my B ml ret n0 Q h cells slots pc' L (.int z :: S)) : Wp l Z R my B ml ret n0 Q h cells slots pc L (.long x :: S) := by
  subst hp hz; exact Wp.plain (fun K X _ target kt => XT.l2i X.here K.1 rfl (hb K.2.1 hd) rfl kt) r
theorem Wp.i2b {x : Int32} {z : Int32} {pc' : Nat} (hd : decode B pc = .ok (.i2b, 1)) (hz : x.toInt8.toInt32 = z) (hp : pc + 1 = pc') (r : Wp l Z R my B ml ret n0 Q h cells slots pc' L (.int z :: S)) : Wp l Z R my B ml ret n0 Q h cells slots pc L (.int x :: S) := by
  subst hp hz; exact Wp.plain (fun K X _ target kt => XT.i2b X.here K.1 rfl (hb K.2.1 hd) rfl kt) r
theorem Wp.i2c {x : Int32} {z : Int32} {pc' : Nat} (hd : decode B pc = .ok (.i2c, 1)) (hz : x.toUInt32.toUInt16.toUInt32.toInt32 = z) (hp : pc + 1 = pc') (r : Wp l Z R my B ml ret n0 Q h cells slots pc' L (.int z :: S)) : Wp l Z R my B ml ret n0 Q h cells slots pc L (.int x :: S) := by
  subst hp hz; exact Wp.plain (fun K X _ target kt => XT.i2c X.here K.1 rfl (hb K.2.1 hd) rfl kt) r
theorem Wp.lshl {x z : Int64} {y : Int32} {pc' : Nat} (hd : decode B pc = .ok (.lshl, 1)) (hz : x <<< (y.toInt64 &&& 63) = z) (hp : pc + 1 = pc') (r : Wp l Z R my B ml ret n0 Q h cells slots pc' L (.long z :: S)) : Wp l Z R my B ml ret n0 Q h cells slots pc L (.int y :: .long x :: S) := by
  subst hp hz; exact Wp.plain (fun K X _ target kt => XT.lshl X.here K.1 rfl (hb K.2.1 hd) rfl kt) r
theorem Wp.lshr {x z : Int64} {y : Int32} {pc' : Nat} (hd : decode B pc = .ok (.lshr, 1)) (hz : x >>> (y.toInt64 &&& 63) = z) (hp : pc + 1 = pc') (r : Wp l Z R my B ml ret n0 Q h cells slots pc' L (.long z :: S)) : Wp l Z R my B ml ret n0 Q h cells slots pc L (.int y :: .long x :: S) := by
  subst hp hz; exact Wp.plain (fun K X _ target kt => XT.lshr X.here K.1 rfl (hb K.2.1 hd) rfl kt) r
theorem Wp.lushr {x z : Int64} {y : Int32} {pc' : Nat} (hd : decode B pc = .ok (.lushr, 1)) (hz : XT.ushrL x y = z) (hp : pc + 1 = pc') (r : Wp l Z R my B ml ret n0 Q h cells slots pc' L (.long z :: S)) : Wp l Z R my B ml ret n0 Q h cells slots pc L (.int y :: .long x :: S) := by
  subst hp hz; exact Wp.plain (fun K X _ target kt => XT.lushr X.here K.1 rfl (hb K.2.1 hd) rfl kt) r
theorem Wp.idiv {x y z : Int32} {pc' : Nat} (hd : decode B pc = .ok (.idiv, 1)) (hy : y ≠ 0) (hz : x / y = z) (hp : pc + 1 = pc') (r : Wp l Z R my B ml ret n0 Q h cells slots pc' L (.int z :: S)) : Wp l Z R my B ml ret n0 Q h cells slots pc L (.int y :: .int x :: S) := by
  subst hp hz; exact Wp.plain (fun K X _ target kt => XS.idiv X.here K.1 rfl (hb K.2.1 hd) rfl hy kt) r
theorem Wp.ldiv {x y z : Int64} {pc' : Nat} (hd : decode B pc = .ok (.ldiv, 1)) (hy : y ≠ 0) (hz : x / y = z) (hp : pc + 1 = pc') (r : Wp l Z R my B ml ret n0 Q h cells slots pc' L (.long z :: S)) : Wp l Z R my B ml ret n0 Q h cells slots pc L (.long y :: .long x :: S) := by
  subst hp hz; exact Wp.plain (fun K X _ target kt => XT.ldiv X.here K.1 rfl (hb K.2.1 hd) rfl hy kt) r
theorem Wp.lrem {x y z : Int64} {pc' : Nat} (hd : decode B pc = .ok (.lrem, 1)) (hy : y ≠ 0) (hz : x - (x / y) * y = z) (hp : pc + 1 = pc') (r : Wp l Z R my B ml ret n0 Q h cells slots pc' L (.long z :: S)) : Wp l Z R my B ml ret n0 Q h cells slots pc L (.long y :: .long x :: S) := by
  subst hp hz; exact Wp.plain (fun K X _ target kt => XT.lrem X.here K.1 rfl (hb K.2.1 hd) rfl hy kt) r
theorem Wp.irem {x y z : Int32} {pc' : Nat} (hd : decode B pc = .ok (.irem, 1)) (hy : y ≠ 0) (hz : x % y = z) (hp : pc + 1 = pc') (r : Wp l Z R my B ml ret n0 Q h cells slots pc' L (.int z :: S)) : Wp l Z R my B ml ret n0 Q h cells slots pc L (.int y :: .int x :: S) := by
  subst hp hz; exact Wp.plain (fun K X _ target kt => iremM X K.1 rfl (hb K.2.1 hd) rfl hy kt) r
theorem Wp.goto {o : Int} {pc' : Nat} (hd : decode B pc = .ok (.goto o, 3)) (ho : 0 ≤ (pc : Int) + o) (hp : ((pc : Int) + o).toNat = pc') (r : Wp l Z R my B ml ret n0 Q h cells slots pc' L S) : Wp l Z R my B ml ret n0 Q h cells slots pc L S :=
  Wp.plain (fun K X _ target kt => XS.goto X.here K.1 rfl rfl (hb K.2.1 hd) ho hp kt) r
/-- what a comparison asks -/
abbrev cdP (cd : ClassFile.Cond) (x y : Int32) : Prop := match cd with | .eq => x = y | .ne => x ≠ y | .lt => x < y | .ge => ¬ x < y | .gt => y < x | .le => ¬ y < x
theorem cdP_iff (cd : ClassFile.Cond) (x y : Int32) : if_icmp.holds cd x y = true ↔ cdP cd x y := by
  cases cd <;> simp [if_icmp.holds, cdP, Int32.not_lt]
theorem cdP_not (cd : ClassFile.Cond) (x y : Int32) (h : ¬ cdP cd x y) : if_icmp.holds cd x y = false := by
  cases q : if_icmp.holds cd x y
  · rfl
  · exact absurd ((cdP_iff cd x y).mp q) h
theorem Wp.icmpY {cd : ClassFile.Cond} {x y : Int32} {o : Int} {pc' : Nat} (hd : decode B pc = .ok (.if_icmp cd o, 3)) (hc : cdP cd x y) (ho : 0 ≤ (pc : Int) + o) (hp : ((pc : Int) + o).toNat = pc') (r : Wp l Z R my B ml ret n0 Q h cells slots pc' L S) : Wp l Z R my B ml ret n0 Q h cells slots pc L (.int y :: .int x :: S) :=
  Wp.plain (fun K X _ target kt => XS.icmpYes X.here K.1 rfl rfl (hb K.2.1 hd) rfl ((cdP_iff cd x y).mpr hc) ho hp kt) r
theorem Wp.icmpN {cd : ClassFile.Cond} {x y : Int32} {o : Int} {pc' : Nat} (hd : decode B pc = .ok (.if_icmp cd o, 3)) (hc : ¬ cdP cd x y) (hp : pc + 3 = pc') (r : Wp l Z R my B ml ret n0 Q h cells slots pc' L S) : Wp l Z R my B ml ret n0 Q h cells slots pc L (.int y :: .int x :: S) := by
  subst hp; exact Wp.plain (fun K X _ target kt => XS.icmpNo X.here K.1 rfl (hb K.2.1 hd) rfl (cdP_not cd x y hc) kt) r
theorem Wp.ifY {cd : ClassFile.Cond} {x : Int32} {o : Int} {pc' : Nat} (hd : decode B pc = .ok (.ifCond cd o, 3)) (hc : cdP cd x 0) (ho : 0 ≤ (pc : Int) + o) (hp : ((pc : Int) + o).toNat = pc') (r : Wp l Z R my B ml ret n0 Q h cells slots pc' L S) : Wp l Z R my B ml ret n0 Q h cells slots pc L (.int x :: S) :=
  Wp.plain (fun K X _ target kt => XS.ifYes X.here K.1 rfl rfl (hb K.2.1 hd) rfl ((if0 _ _).trans ((cdP_iff cd x 0).mpr hc)) ho hp kt) r
theorem Wp.ifN {cd : ClassFile.Cond} {x : Int32} {o : Int} {pc' : Nat} (hd : decode B pc = .ok (.ifCond cd o, 3)) (hc : ¬ cdP cd x 0) (hp : pc + 3 = pc') (r : Wp l Z R my B ml ret n0 Q h cells slots pc' L S) : Wp l Z R my B ml ret n0 Q h cells slots pc L (.int x :: S) := by
  subst hp; exact Wp.plain (fun K X _ target kt => XS.ifNo X.here K.1 rfl (hb K.2.1 hd) rfl ((if0 _ _).trans (cdP_not cd x 0 hc)) kt) r
/-- lcmp, then a branch on it -/
abbrev cdL (cd : ClassFile.Cond) (x y : Int64) : Prop := match cd with | .eq => x = y | .ne => x ≠ y | .lt => x < y | .ge => ¬ x < y | .gt => y < x | .le => ¬ y < x
theorem cmpL_lt (x y : Int64) : XT.cmpL x y < 0 ↔ x < y := lw_lt x y
theorem cmpL_gt (x y : Int64) : 0 < XT.cmpL x y ↔ y < x := lw_gt x y
theorem cmpL_eq (x y : Int64) : XT.cmpL x y = 0 ↔ x = y := lw_eq x y
theorem cdL_iff (cd : ClassFile.Cond) (x y : Int64) : cdP cd (XT.cmpL x y) 0 ↔ cdL cd x y := by
  cases cd
  · exact cmpL_eq x y
  · exact not_congr (cmpL_eq x y)
  · exact cmpL_lt x y
  · exact not_congr (cmpL_lt x y)
  · exact cmpL_gt x y
  · exact not_congr (cmpL_gt x y)
theorem Wp.lcmp {x y : Int64} {z : Int32} {pc' : Nat} (hd : decode B pc = .ok (.lcmp, 1)) (hz : XT.cmpL x y = z) (hp : pc + 1 = pc') (r : Wp l Z R my B ml ret n0 Q h cells slots pc' L (.int z :: S)) : Wp l Z R my B ml ret n0 Q h cells slots pc L (.long y :: .long x :: S) := by
  subst hp hz; exact Wp.plain (fun K X _ target kt => XT.lcmp X.here K.1 rfl (hb K.2.1 hd) rfl kt) r
theorem Wp.lcmpY {cd : ClassFile.Cond} {x y : Int64} {o : Int} {p1 pc' : Nat} (hd : decode B pc = .ok (.lcmp, 1)) (h1 : pc + 1 = p1) (hd' : decode B p1 = .ok (.ifCond cd o, 3)) (hc : cdL cd x y) (ho : 0 ≤ (p1 : Int) + o) (hp : ((p1 : Int) + o).toNat = pc') (r : Wp l Z R my B ml ret n0 Q h cells slots pc' L S) : Wp l Z R my B ml ret n0 Q h cells slots pc L (.long y :: .long x :: S) :=
  Wp.lcmp hd rfl h1 (Wp.ifY hd' ((cdL_iff cd x y).mpr hc) ho hp r)
theorem Wp.lcmpN {cd : ClassFile.Cond} {x y : Int64} {o : Int} {p1 pc' : Nat} (hd : decode B pc = .ok (.lcmp, 1)) (h1 : pc + 1 = p1) (hd' : decode B p1 = .ok (.ifCond cd o, 3)) (hc : ¬ cdL cd x y) (hp : p1 + 3 = pc') (r : Wp l Z R my B ml ret n0 Q h cells slots pc' L S) : Wp l Z R my B ml ret n0 Q h cells slots pc L (.long y :: .long x :: S) :=
  Wp.lcmp hd rfl h1 (Wp.ifN hd' (fun q => hc ((cdL_iff cd x y).mp q)) hp r)
theorem Wp.ifnullY {o : Int} {pc' : Nat} (hd : decode B pc = .ok (.ifnull o, 3)) (ho : 0 ≤ (pc : Int) + o) (hp : ((pc : Int) + o).toNat = pc') (r : Wp l Z R my B ml ret n0 Q h cells slots pc' L S) : Wp l Z R my B ml ret n0 Q h cells slots pc L (.null :: S) :=
  Wp.plain (fun K X _ target kt => XS.ifnullYes X.here K.1 rfl rfl (hb K.2.1 hd) rfl ho hp kt) r
theorem Wp.ifnullN {a : Addr} {o : Int} {pc' : Nat} (hd : decode B pc = .ok (.ifnull o, 3)) (hp : pc + 3 = pc') (r : Wp l Z R my B ml ret n0 Q h cells slots pc' L S) : Wp l Z R my B ml ret n0 Q h cells slots pc L (.ref a :: S) := by
  subst hp; exact Wp.plain (fun K X _ target kt => XS.ifnullNo X.here K.1 rfl (hb K.2.1 hd) rfl kt) r
theorem Wp.ifnonnullY {a : Addr} {o : Int} {pc' : Nat} (hd : decode B pc = .ok (.ifnonnull o, 3)) (ho : 0 ≤ (pc : Int) + o) (hp : ((pc : Int) + o).toNat = pc') (r : Wp l Z R my B ml ret n0 Q h cells slots pc' L S) : Wp l Z R my B ml ret n0 Q h cells slots pc L (.ref a :: S) :=
  Wp.plain (fun K X _ target kt => XT.ifnonnullYes X.here K.1 rfl rfl (hb K.2.1 hd) rfl ho hp kt) r
theorem Wp.ifnonnullN {o : Int} {pc' : Nat} (hd : decode B pc = .ok (.ifnonnull o, 3)) (hp : pc + 3 = pc') (r : Wp l Z R my B ml ret n0 Q h cells slots pc' L S) : Wp l Z R my B ml ret n0 Q h cells slots pc L (.null :: S) := by
  subst hp; exact Wp.plain (fun K X _ target kt => XT.ifnonnullNo X.here K.1 rfl (hb K.2.1 hd) rfl kt) r
theorem Wp.acmpY {cd : ClassFile.ACond} {v w : Value} {o : Int} {pc' : Nat} (hd : decode B pc = .ok (.if_acmp cd o, 3)) (hv : v.isRef = true) (hw : w.isRef = true) (hc : XT.acmp cd v w = true) (ho : 0 ≤ (pc : Int) + o) (hp : ((pc : Int) + o).toNat = pc') (r : Wp l Z R my B ml ret n0 Q h cells slots pc' L S) : Wp l Z R my B ml ret n0 Q h cells slots pc L (w :: v :: S) :=
  Wp.plain (fun K X _ target kt => XT.acmpYes X.here K.1 rfl rfl (hb K.2.1 hd) rfl hv hw hc ho hp kt) r
theorem Wp.acmpN {cd : ClassFile.ACond} {v w : Value} {o : Int} {pc' : Nat} (hd : decode B pc = .ok (.if_acmp cd o, 3)) (hv : v.isRef = true) (hw : w.isRef = true) (hc : XT.acmp cd v w = false) (hp : pc + 3 = pc') (r : Wp l Z R my B ml ret n0 Q h cells slots pc' L S) : Wp l Z R my B ml ret n0 Q h cells slots pc L (w :: v :: S) := by
  subst hp; exact Wp.plain (fun K X _ target kt => XT.acmpNo X.here K.1 rfl (hb K.2.1 hd) rfl hv hw hc kt) r
/-- lookupswitch: where it goes -/
theorem Wp.lsw {dflt o : Int} {pairs : Array (Int × Int)} {len : Nat} {i : Int32} {pc' : Nat} (hd : decode B pc = .ok (.lookupswitch dflt pairs, len)) (hsrt : ∀ (a b a' b' : Int), ((a, b), a', b') ∈ pairs.toList.zip pairs.toList.tail → a < a') (hq : lookupswitch.offset pairs.toList dflt i.toInt = o) (ho : 0 ≤ (pc : Int) + o) (hp : ((pc : Int) + o).toNat = pc') (r : Wp l Z R my B ml ret n0 Q h cells slots pc' L S) : Wp l Z R my B ml ret n0 Q h cells slots pc L (.int i :: S) := by
  subst hp hq
  refine Wp.plain (fun {p e s m args below meth c T locs} K X _ target kt => ?_) r
  have hx := K.1
  have hd' : decode c.code pc = .ok (.lookupswitch dflt pairs, len) := hb K.2.1 hd
  show Steps p.tables e below (T.setTop { method := m, pc := pc, locals := L, stack := .int i :: S, locked := none }) _
  jvm_step X.here [X.here.top, hx, hd', lookupswitch.wp_chain, ho]
  exact ⟨hsrt, kt⟩
/-! returns -/
theorem Wp.ends {v : Option Value} (hc : cells ≤ R.cells) (hs : slots ≤ R.slots) (hq : Q v h) (hv : ret = none → v = none)
    (st : ∀ {p : Program} {e : Env} {s : State} {m : MethodId} {args : Array Value} {below : List Frame} {meth : Method} {c : Code} {T : State} {locs : List Loc}, Cx p s m meth c Z my B ml ret → Stand p l e R s m args below meth c T locs cells slots → ∀ fs, (∀ (f : JFrame) (acts : List Action), f.method = m → f.locked = none → f.entered = [] → (doReturn e (T.setTop f) acts v).1 = T.setFrames fs) → Steps p.tables e below (T.setTop (mkF m pc L S)) (T.setFrames fs)) : Wp l Z R my B ml ret n0 Q h cells slots pc L S := by
  intro p e s m args below meth c T locs K X eT N
  obtain ⟨fs, hr, hrun, hended, hW, hsame⟩ := X.leave (v := v) (fun q => hv (K.2.2.2.2.2.2.1.symm.trans q)) K.2.2.2.2.2.2.2
  refine ⟨_, _, st K X fs hr, hrun, hended, v, locs, rfl, ⟨?_, N⟩, ⟨v, rfl⟩, hW, hsame.mono hc hs⟩
  show Q v T.heap
  rw [eT]; exact hq
theorem Wp.retOut {v : Value} {t : FieldType} {i : Instr} (ht : ret = some t) (hn : narrow t v = v)
    (hi : (i = .ireturn ∧ (t = .int ∨ t = .boolean ∨ t = .byte ∨ t = .char ∨ t = .short) ∧ ∃ z, v = .int z) ∨ (i = .lreturn ∧ t = .long ∧ ∃ z, v = .long z) ∨ (i = .dreturn ∧ t = .double ∧ ∃ z, v = .double z) ∨ (i = .freturn ∧ t = .float ∧ ∃ z, v = .float z) ∨ (i = .areturn ∧ t.isReference = true ∧ v.isRef = true))
    (hd : decode B pc = .ok (i, 1)) (hc : cells ≤ R.cells) (hs : slots ≤ R.slots) (hq : Q (some v) h) : Wp l Z R my B ml ret n0 Q h cells slots pc L (v :: S) :=
  Wp.ends hc hs hq (fun q => by rw [ht] at q; cases q) (fun K X fs hl => RoadKit.retOut X K.1 (K.2.2.2.2.2.2.1.trans ht) hn hi (hb K.2.1 hd) hl)
theorem Wp.retI {z : Int32} (ht : ret = some .int) (hd : decode B pc = .ok (.ireturn, 1)) (hc : cells ≤ R.cells) (hs : slots ≤ R.slots) (hq : Q (some (.int z)) h) : Wp l Z R my B ml ret n0 Q h cells slots pc L (.int z :: S) :=
  Wp.retOut ht rfl (Or.inl ⟨rfl, Or.inl rfl, z, rfl⟩) hd hc hs hq
theorem Wp.retL {z : Int64} (ht : ret = some .long) (hd : decode B pc = .ok (.lreturn, 1)) (hc : cells ≤ R.cells) (hs : slots ≤ R.slots) (hq : Q (some (.long z)) h) : Wp l Z R my B ml ret n0 Q h cells slots pc L (.long z :: S) :=
  Wp.retOut ht rfl (Or.inr (Or.inl ⟨rfl, rfl, z, rfl⟩)) hd hc hs hq
/-- a boolean, byte, char or short, that is one already -/
theorem Wp.retS {z : Int32} {t : FieldType} (ht : ret = some t) (hk : t = .boolean ∨ t = .byte ∨ t = .char ∨ t = .short) (hn : narrow t (.int z) = .int z) (hd : decode B pc = .ok (.ireturn, 1)) (hc : cells ≤ R.cells) (hs : slots ≤ R.slots) (hq : Q (some (.int z)) h) : Wp l Z R my B ml ret n0 Q h cells slots pc L (.int z :: S) :=
  Wp.retOut ht hn (Or.inl ⟨rfl, Or.inr hk, z, rfl⟩) hd hc hs hq
theorem Wp.retA {v : Value} {t : FieldType} (ht : ret = some t) (htr : t.isReference = true) (hv : v.isRef = true) (hn : narrow t v = v) (hd : decode B pc = .ok (.areturn, 1)) (hc : cells ≤ R.cells) (hs : slots ≤ R.slots) (hq : Q (some v) h) : Wp l Z R my B ml ret n0 Q h cells slots pc L (v :: S) :=
  Wp.retOut ht hn (Or.inr (Or.inr (Or.inr (Or.inr ⟨rfl, htr, hv⟩)))) hd hc hs hq
theorem Wp.ret0 (ht : ret = none) (hd : decode B pc = .ok (.return_, 1)) (hc : cells ≤ R.cells) (hs : slots ≤ R.slots) (hq : Q none h) : Wp l Z R my B ml ret n0 Q h cells slots pc L [] :=
  Wp.ends hc hs hq (fun _ => rfl) (fun K X fs hl => X.returnOut K.1 (K.2.2.2.2.2.2.1.trans ht) (hb K.2.1 hd) hl)
/-! calls -/
theorem Wp.callS {yy : MethodName} {B' : ByteArray} {ml' : Nat} {ret' : Option FieldType} {rm : Room} {Q' : Option Value → Heap → Prop} {index pc' : Nat} {argsL S0 : List Value} {as : Array Value} (M : Met l Z yy B' ml' ret' rm as h n0 Q')
    (wl : (Jvm.Cond.methodLink my.cls index yy).before a0 Z = true) (ws : (Jvm.Cond.static yy).before a0 Z = true) (wi : (Jvm.Cond.initialized yy.cls).before a0 Z = true) (wc : (Jvm.Cond.code yy B' ml' ret').before a0 Z = true)
    (hy : yy.cls ≠ "java/lang/invoke/MethodHandle" ∧ yy.cls ≠ "java/lang/invoke/VarHandle") {W : Nat} (hsz : L.size = ml) (hlen : ∀ sig, parseMethodDescriptor yy.desc = some sig → argsL.length = sig.parameters.length) (hst : S0 = argsL.reverse ++ S) (has : argsL.toArray = as) (hW : (S.map fun v => v.category).sum ≤ W)
    (hf : rm.frames + 1 ≤ R.frames) (hl : W + (ml' + 11) + rm.locals ≤ R.locals) (hc : cells + rm.cells ≤ R.cells) (hs : slots + rm.slots ≤ R.slots) (hd : decode B pc = .ok (.invokestatic index, 3)) (hp : pc + 3 = pc')
    (r : ∀ v h', Q' v h' → Wp l Z R my B ml ret n0 Q h' (cells + rm.cells) (slots + rm.slots) pc' L (v.toList ++ S)) : Wp l Z R my B ml ret n0 Q h cells slots pc L S0 := by
  intro p e s m args below meth c T locs K X eT N
  subst hp hst
  have hZ := K.2.2.2.1
  obtain ⟨v, vm₁, ⟨T', L', k', n'⟩, -, X', ⟨Lc, hQ, l', y', z'⟩, st⟩ := Jvm.LawKit.callS X K.1 (y := yy) K.2.2.2.2.1 (mvT hZ wl) (mvT hZ ws) (mvT hZ wi) (mvT hZ wc) hy (backOf (W := W) (Q := fun v h L => Q' v h ∧ Fr n0 L) (M []) hZ wc wi hf hl) (g := mkF m pc L (argsL.reverse ++ S)) rfl (hsz.trans K.2.2.1.symm) (argsL := argsL) (rest := S) hlen rfl (by show 2 * 0 + _ ≤ _; rw [Nat.mul_zero, Nat.zero_add]; exact hW) (hb K.2.1 hd) (fun _ _ => ⟨has, eT, hc, hs⟩)
  dsimp only [Pt.U, Pt.locs, Pt.cells, Pt.slots] at X' l' y' z' st hQ
  subst l' y' z'
  obtain ⟨s₂, o, k1, k2⟩ := r v _ hQ.1 p e s m args below meth c T' _ K X' rfl (Fr.app N hQ.2)
  exact ⟨s₂, o, st _ k1, k2⟩
theorem Wp.callV {yy zz : MethodName} {B' : ByteArray} {ml' : Nat} {ret' : Option FieldType} {rm : Room} {Q' : Option Value → Heap → Prop} {index pc' : Nat} {argsL S0 : List Value} {as : Array Value} {a : Addr} {C : String} (M : Met l Z zz B' ml' ret' rm as h n0 Q') (E : Exa Z h a C)
    (wl : (Jvm.Cond.methodLink my.cls index yy).before a0 Z = true) (wd : (Jvm.Cond.declares yy).before a0 Z = true) (wse : (Jvm.Cond.selects C yy zz).before a0 Z = true) (wm : (Jvm.Cond.instanceMethod zz).before a0 Z = true) (wi : (Jvm.Cond.initialized zz.cls).before a0 Z = true) (wc : (Jvm.Cond.code zz B' ml' ret').before a0 Z = true)
    (nf : ∀ s : State, Z.Warmed39 s.vm → NotFace s yy)
    (hy : yy.cls ≠ "java/lang/invoke/MethodHandle" ∧ yy.cls ≠ "java/lang/invoke/VarHandle") {W : Nat} (hsz : L.size = ml) (hlen : ∀ sig, parseMethodDescriptor yy.desc = some sig → argsL.length = sig.parameters.length) (hst : S0 = argsL.reverse ++ .ref a :: S) (has : (.ref a :: argsL).toArray = as) (hW : (S.map fun v => v.category).sum ≤ W)
    (hf : rm.frames + 1 ≤ R.frames) (hl : W + (ml' + 11) + rm.locals ≤ R.locals) (hc : cells + rm.cells ≤ R.cells) (hs : slots + rm.slots ≤ R.slots) (hd : decode B pc = .ok (.invokevirtual index, 3)) (hp : pc + 3 = pc')
    (r : ∀ v h', Q' v h' → Wp l Z R my B ml ret n0 Q h' (cells + rm.cells) (slots + rm.slots) pc' L (v.toList ++ S)) : Wp l Z R my B ml ret n0 Q h cells slots pc L S0 := by
  intro p e s m args below meth c T locs K X eT N
  subst hp hst
  have hZ := K.2.2.2.1
  obtain ⟨cB, kB, q1, -, q3⟩ := isOf hZ eT E
  obtain ⟨v, vm₁, ⟨T', L', k', n'⟩, -, X', ⟨Lc, hQ, l', y', z'⟩, st⟩ := X.virtualBack K.1 (y := yy) (z := zz) K.2.2.2.2.1 (mvT hZ wl) (mvT hZ wd) (nf s hZ) (mvT hZ wse) (mvT hZ wm) hy (backOf (W := W) (Q := fun v h L => Q' v h ∧ Fr n0 L) (M []) hZ wc wi hf hl) q1 q3 (g := mkF m pc L (argsL.reverse ++ .ref a :: S)) rfl (hsz.trans K.2.2.1.symm) (Steps.refl _) (argsL := argsL) (rest := S) hlen rfl (by show 2 * 0 + _ ≤ _; rw [Nat.mul_zero, Nat.zero_add]; exact hW) (hb K.2.1 hd) (fun _ _ => ⟨has, eT, hc, hs⟩)
  dsimp only [Pt.U, Pt.locs, Pt.cells, Pt.slots] at X' l' y' z' st hQ
  subst l' y' z'
  obtain ⟨s₂, o, k1, k2⟩ := r v _ hQ.1 p e s m args below meth c T' _ K X' rfl (Fr.app N hQ.2)
  exact ⟨s₂, o, st.trans k1, k2⟩
theorem nfS {yy : MethodName} {C : String} (w : (Jvm.Cond.selects C yy yy).before a0 Z = true) : ∀ s : State, Z.Warmed39 s.vm → NotFace s yy := fun s hZ => notFace_of_selects (args := #[]) (mvT hZ w)
theorem Wp.callI {yy : MethodName} {B' : ByteArray} {ml' : Nat} {rm : Room} {Q' : Option Value → Heap → Prop} {index pc' : Nat} {argsL S0 : List Value} {as : Array Value} {a : Addr} (M : Met l Z yy B' ml' none rm as h n0 Q') (hin : yy.name = "<init>")
    (wl : (Jvm.Cond.methodLink my.cls index yy).before a0 Z = true) (wm : (Jvm.Cond.instanceMethod yy).before a0 Z = true) (wi : (Jvm.Cond.initialized yy.cls).before a0 Z = true) (wc : (Jvm.Cond.code yy B' ml' none).before a0 Z = true)
    (hy : yy.cls ≠ "java/lang/invoke/MethodHandle" ∧ yy.cls ≠ "java/lang/invoke/VarHandle") {W : Nat} (hsz : L.size = ml) (hlen : ∀ sig, parseMethodDescriptor yy.desc = some sig → argsL.length = sig.parameters.length) (hst : S0 = argsL.reverse ++ .ref a :: S) (has : (.ref a :: argsL).toArray = as) (hW : (S.map fun v => v.category).sum ≤ W)
    (hf : rm.frames + 1 ≤ R.frames) (hl : W + (ml' + 11) + rm.locals ≤ R.locals) (hc : cells + rm.cells ≤ R.cells) (hs : slots + rm.slots ≤ R.slots) (hd : decode B pc = .ok (.invokespecial index, 3)) (hp : pc + 3 = pc')
    (r : ∀ v h', Q' v h' → Wp l Z R my B ml ret n0 Q h' (cells + rm.cells) (slots + rm.slots) pc' L (v.toList ++ S)) : Wp l Z R my B ml ret n0 Q h cells slots pc L S0 := by
  intro p e s m args below meth c T locs K X eT N
  subst hp hst
  have hZ := K.2.2.2.1
  obtain ⟨v, vm₁, ⟨T', L', k', n'⟩, -, X', ⟨Lc, hQ, l', y', z'⟩, st⟩ := X.specialBack K.1 (y := yy) hin K.2.2.2.2.1 (mvT hZ wl) (mvT hZ wm) (mvT hZ wc) hy (backOf (W := W) (Q := fun v h L => Q' v h ∧ Fr n0 L) (M []) hZ wc wi hf hl) (g := mkF m pc L (argsL.reverse ++ .ref a :: S)) rfl (hsz.trans K.2.2.1.symm) (Steps.refl _) (a := a) (argsL := argsL) (rest := S) hlen rfl (by show 2 * 0 + _ ≤ _; rw [Nat.mul_zero, Nat.zero_add]; exact hW) (hb K.2.1 hd) (fun _ _ => ⟨has, eT, hc, hs⟩)
  dsimp only [Pt.U, Pt.locs, Pt.cells, Pt.slots] at X' l' y' z' st hQ
  subst l' y' z'
  obtain ⟨s₂, o, k1, k2⟩ := r v _ hQ.1 p e s m args below meth c T' _ K X' rfl (Fr.app N hQ.2)
  exact ⟨s₂, o, st.trans k1, k2⟩
theorem Wp.initO {a : Addr} {index pc' : Nat} (wl : (Jvm.Cond.methodLink my.cls index Lib.objectInit).before a0 Z = true) (wm : (Jvm.Cond.instanceMethod Lib.objectInit).before a0 Z = true) (wc : (Jvm.Cond.code Lib.objectInit ⟨#[0xb1]⟩ 1 none).before a0 Z = true) {W : Nat} (hsz : L.size = ml) (hW : (S.map fun v => v.category).sum ≤ W) (hf : 1 ≤ R.frames) (hl : W + 12 ≤ R.locals)
    (hd : decode B pc = .ok (.invokespecial index, 3)) (hp : pc + 3 = pc') (r : Wp l Z R my B ml ret n0 Q h cells slots pc' L S) : Wp l Z R my B ml ret n0 Q h cells slots pc L (.ref a :: S) := by
  subst hp
  refine Wp.moved (fun {p e s m args below meth c T locs} K X eT => ?_) r
  exact RoadKit.initO X K.1 K.2.2.2.1 K.2.2.2.2.1 wl wm wc eT (g := mkF m pc L (.ref a :: S)) rfl (hsz.trans K.2.2.1.symm) rfl (hb K.2.1 hd) hf (by show 2 * 0 + _ ≤ _; rw [Nat.mul_zero, Nat.zero_add]; exact hW) hl
end Base
/-! what is known of the heap: a list of places, no two the same, all new, with what each holds -/
def Hp (h : Heap) (n0 : Nat) (Ls : List (Addr × (Cell → Prop))) : Prop := n0 ≤ h.size ∧ Ls.Pairwise (fun x y => x.1 ≠ y.1) ∧ ∀ q ∈ Ls, n0 ≤ q.1 ∧ ∃ c, h[q.1]? = some c ∧ q.2 c
/-- an array: its type, its kind, all its values -/
def ArC (Z : State) (k : ClassId) (ty : FieldType) (vs : List Value) (c : Cell) : Prop := Z.isArrayOf c ty ∧ c.vm ≠ .unknown ∧ c.cls = k ∧ c.slots.toList = vs ∧ ∀ v ∈ vs, fits ty v = true
def FdC (Z : State) (C : String) (f : String × String × Value) (c : Cell) : Prop := ∃ (cf : ClassId) (k : Class) (i : Nat) (fd : Field), Z.fieldFound? C f.1 f.2.1 = some (cf, k, i, fd) ∧ fd.isStatic = false ∧ c.vm ≠ .unknown ∧ c.vm.isStatics = false ∧ Z.vm.assignable c.cls cf = true ∧ c.slots[fd.slot]? = some f.2.2
/-- an object: its type, the fields that are told -/
def ObC (Z : State) (a0 : Array Value) (C : String) (fs : List (String × String × Value)) (c : Cell) : Prop :=
  (∃ k : Class, Z.vm.findClass C = some c.cls ∧ Z.vm.classes[c.cls]? = some k ∧ c.vm.isStatics = false ∧ (k.kind = .ordinary → c.slots.size = k.instanceTypes.size)) ∧ ∀ f ∈ fs, FdC Z C f c ∧ Laid Z a0 C C f.1 f.2.1 ∧ ∃ t, parseFieldDescriptor f.2.1 = some t
section Heap
variable {l : Launch} {Z : State} {R : Room} {my : MethodName} {B : ByteArray} {ml : Nat} {ret : Option FieldType} {n0 : Nat} {Q : Option Value → Heap → Prop} {h h' : Heap} {cells slots pc : Nat} {L : Array Slot} {S : List Value} {a0 : Array Value} {a : Addr} {P P' : Cell → Prop} {Ls Ls' LA LB : List (Addr × (Cell → Prop))} {k : ClassId} {ty : FieldType} {vs : List Value} {C n d : String} {v : Value} {fs F1 F2 : List (String × String × Value)}
theorem Hp.nil (q : n0 ≤ h.size) : Hp h n0 [] := ⟨q, List.Pairwise.nil, fun _ z => nomatch z⟩
theorem Hp.at (O : Hp h n0 Ls) {i : Nat} (hi : Ls[i]? = some (a, P)) : n0 ≤ a ∧ ∃ c, h[a]? = some c ∧ P c := O.2.2 _ (List.mem_of_getElem? hi)
theorem Hp.perm (O : Hp h n0 Ls) (q : Ls.Perm Ls') : Hp h n0 Ls' :=
  ⟨O.1, (q.pairwise_iff (fun {x y} (hh : x.1 ≠ y.1) => Ne.symm hh)).mp O.2.1, fun z hz => O.2.2 z (q.mem_iff.mpr hz)⟩
theorem Hp.front {x : Addr × (Cell → Prop)} (O : Hp h n0 (LA ++ x :: LB)) : Hp h n0 (x :: (LA ++ LB)) := O.perm List.perm_middle
theorem Hp.back {x : Addr × (Cell → Prop)} (O : Hp h n0 (x :: (LA ++ LB))) : Hp h n0 (LA ++ x :: LB) := O.perm List.perm_middle.symm
theorem Hp.drop {x : Addr × (Cell → Prop)} (O : Hp h n0 (x :: Ls)) : Hp h n0 Ls := ⟨O.1, (List.pairwise_cons.mp O.2.1).2, fun z hz => O.2.2 z (List.mem_cons_of_mem _ hz)⟩
theorem Hp.weak (O : Hp h n0 (LA ++ (a, P) :: LB)) (hP : ∀ c, P c → P' c) : Hp h n0 (LA ++ (a, P') :: LB) := by
  obtain ⟨h1, h2, h3⟩ := O
  refine ⟨h1, ?_, fun q hq => ?_⟩
  · rw [List.pairwise_append, List.pairwise_cons] at h2 ⊢
    refine ⟨h2.1, h2.2.1, fun x hx z hz => ?_⟩
    rcases List.mem_cons.mp hz with rfl | hz
    · exact h2.2.2 x hx (a, P) (List.mem_cons_self ..)
    · exact h2.2.2 x hx z (List.mem_cons_of_mem _ hz)
  · rcases List.mem_append.mp hq with hq | hq
    · exact h3 q (List.mem_append_left _ hq)
    · rcases List.mem_cons.mp hq with rfl | hq
      · obtain ⟨u1, c, u2, u3⟩ := h3 (a, P) (List.mem_append_right _ (List.mem_cons_self ..))
        exact ⟨u1, c, u2, hP c u3⟩
      · exact h3 q (List.mem_append_right _ (List.mem_cons_of_mem _ hq))
theorem Hp.wr {sl : Nat} (O : Hp h n0 (LA ++ (a, P) :: LB)) (W : Wr h h' a sl v) (hP : ∀ c, P c → P' (c.setSlot sl v)) : Hp h' n0 (LA ++ (a, P') :: LB) := by
  obtain ⟨h1, h2, h3⟩ := O
  have h2' := h2
  rw [List.pairwise_append, List.pairwise_cons] at h2'
  refine ⟨by rw [W.size]; exact h1, ?_, fun q hq => ?_⟩
  · rw [List.pairwise_append, List.pairwise_cons]
    refine ⟨h2'.1, h2'.2.1, fun x hx z hz => ?_⟩
    rcases List.mem_cons.mp hz with rfl | hz
    · exact h2'.2.2 x hx (a, P) (List.mem_cons_self ..)
    · exact h2'.2.2 x hx z (List.mem_cons_of_mem _ hz)
  · rcases List.mem_append.mp hq with hq | hq
    · obtain ⟨u1, c, u2, u3⟩ := h3 q (List.mem_append_left _ hq)
      obtain ⟨c', w1, -, -, -, w5, -⟩ := wr_at W u2
      have ne : q.1 ≠ a := h2'.2.2 q hq (a, P) (List.mem_cons_self ..)
      exact ⟨u1, c', w1, by rw [w5 ne]; exact u3⟩
    · rcases List.mem_cons.mp hq with rfl | hq
      · obtain ⟨u1, c, u2, u3⟩ := h3 (a, P) (List.mem_append_right _ (List.mem_cons_self ..))
        obtain ⟨c', w1, -, -, -, -, -, w7⟩ := wr_at W u2
        exact ⟨u1, c', w1, by rw [(w7 rfl).1]; exact hP c u3⟩
      · obtain ⟨u1, c, u2, u3⟩ := h3 q (List.mem_append_right _ (List.mem_cons_of_mem _ hq))
        obtain ⟨c', w1, -, -, -, w5, -⟩ := wr_at W u2
        have ne : q.1 ≠ a := fun e => h2'.2.1.1 q hq e.symm
        exact ⟨u1, c', w1, by rw [w5 ne]; exact u3⟩
theorem Hp.new {c : Cell} (O : Hp h n0 Ls) (E : Ext h h') (hc : h'[h.size]? = some c) (hP : P c) : Hp h' n0 ((h.size, P) :: Ls) := by
  obtain ⟨h1, h2, h3⟩ := O
  refine ⟨Nat.le_trans h1 E.1, List.pairwise_cons.mpr ⟨fun q hq e => ?_, h2⟩, fun q hq => ?_⟩
  · obtain ⟨-, c', u2, -⟩ := h3 q hq
    have := (Array.getElem?_eq_some_iff.mp u2).1
    have e' : h.size = q.1 := e
    omega
  · rcases List.mem_cons.mp hq with rfl | hq
    · exact ⟨h1, c, hc, hP⟩
    · obtain ⟨u1, c', u2, u3⟩ := h3 q hq
      exact ⟨u1, c', E.2 _ _ u2, u3⟩
theorem Hp.ne {i j : Nat} {b : Addr} (O : Hp h n0 Ls) (hi : Ls[i]? = some (a, P)) (hj : Ls[j]? = some (b, P')) (hij : i ≠ j) : a ≠ b := by
  obtain ⟨i1, e1⟩ := List.getElem?_eq_some_iff.mp hi
  obtain ⟨j1, e2⟩ := List.getElem?_eq_some_iff.mp hj
  have q := List.pairwise_iff_getElem.mp O.2.1
  rcases Nat.lt_or_gt_of_ne hij with u | u
  · have := q i j i1 j1 u
    rw [e1, e2] at this; exact this
  · have := q j i j1 i1 u
    rw [e1, e2] at this; exact Ne.symm this
theorem ArC.arr {c : Cell} (H : ArC Z k ty vs c) (hc : h[a]? = some c) : Arr Z h a c ty := ⟨hc, H.1, H.2.1⟩
theorem ArC.size {c : Cell} (H : ArC Z k ty vs c) : c.slots.size = vs.length := by rw [← H.2.2.2.1]; simp
theorem ArC.get {c : Cell} (H : ArC Z k ty vs c) (j : Nat) : c.slots[j]? = vs[j]? := by rw [← H.2.2.2.1]; simp
theorem ArC.set {c : Cell} (H : ArC Z k ty vs c) (j : Nat) (hv : fits ty v = true) : ArC Z k ty (vs.set j v) (c.setSlot j v) := by
  refine ⟨H.1, H.2.1, H.2.2.1, ?_, fun w hw => ?_⟩
  · rw [← H.2.2.2.1]; simp [Cell.setSlot]
  · rcases List.mem_or_eq_of_mem_set hw with q | rfl
    · exact H.2.2.2.2 w q
    · exact hv
theorem in_of {c : Cell} {j : Int32} {jn : Nat} (H : ArC Z k ty vs c) (hj : ¬ j < 0) (hjn : j.toNatClampNeg = jn) (hl : jn < vs.length) : ¬ (j < 0 ∨ c.slots.size ≤ j.toNatClampNeg) := by
  rw [H.size, hjn]; exact fun q => q.elim hj (fun q => by omega)
theorem default_fits (ty : FieldType) : fits ty (defaultValue ty) = true := by cases ty <;> rfl
/-! arrays -/
theorem Wp.newarr {aty : ArrayType} {nn : Int32} {m pc' cap : Nat} (O : Hp h n0 Ls) (w : (Jvm.Cond.arrayClass (newarray.typeOf aty)).before a0 Z = true) (hd : decode B pc = .ok (.newarray aty, 2)) (hn : ¬ nn < 0) (hm : nn.toNatClampNeg = m) (hcap : m ≤ cap) (hb' : cap * 8 ≤ 536870912) (hc : cells + 1 ≤ R.cells) (hl : slots + cap ≤ R.slots) (hp : pc + 2 = pc')
    (r : ∀ h' a k, Hp h' n0 ((a, ArC Z k (newarray.typeOf aty) (List.replicate m (defaultValue (newarray.typeOf aty)))) :: Ls) → Wp l Z R my B ml ret n0 Q h' (cells + 1) (slots + cap) pc' L (.ref a :: S)) : Wp l Z R my B ml ret n0 Q h cells slots pc L (.int nn :: S) := by
  intro p e s m' args below meth c T locs K X eT N
  subst hp hm
  obtain ⟨T', h', cA, X', e', E, A, st⟩ := RoadKit.newP X K.1 K.2.2.2.1 w eT (g := mkF m' pc L (.int nn :: S)) rfl (hb K.2.1 hd) rfl hn hcap hb' hc hl
  have O' : Hp h' n0 ((h.size, ArC Z cA (newarray.typeOf aty) (List.replicate nn.toNatClampNeg (defaultValue (newarray.typeOf aty)))) :: Ls) := O.new E A.1 ⟨A.2.1, A.2.2, rfl, by simp [newA], fun v hv => by rw [List.eq_of_mem_replicate hv]; exact default_fits _⟩
  obtain ⟨s₂, o, k1, k2⟩ := r h' h.size cA O' p e s m' args below meth c T' locs K X' e' N
  exact ⟨s₂, o, st _ k1, k2⟩
theorem Wp.arrlen {i pc' : Nat} {z : Int32} (O : Hp h n0 Ls) (hi : Ls[i]? = some (a, ArC Z k ty vs)) (hd : decode B pc = .ok (.arraylength, 1)) (hz : vs.length.toInt32 = z) (hp : pc + 1 = pc') (r : Wp l Z R my B ml ret n0 Q h cells slots pc' L (.int z :: S)) : Wp l Z R my B ml ret n0 Q h cells slots pc L (.ref a :: S) := by
  subst hp hz
  obtain ⟨-, c, hc, H⟩ := O.at hi
  refine Wp.plain (fun {p e s m args below meth c' T locs} K X eT target kt => ?_) r
  refine X.arraylength K.1 (cell := c) (by rw [eT]; exact hc) (State.isArrayOf_alike K.2.2.2.1.alike H.1) (g := mkF m pc L (.ref a :: S)) rfl (rest := S) rfl (hb K.2.1 hd) target ?_
  rw [H.size]; exact kt
theorem Wp.iaload {i pc' jn : Nat} {j : Int32} (O : Hp h n0 Ls) (hi : Ls[i]? = some (a, ArC Z k .int vs)) (hd : decode B pc = .ok (.iaload, 1)) (hj : ¬ j < 0) (hjn : j.toNatClampNeg = jn) (hv : vs[jn]? = some v) (hp : pc + 1 = pc') (r : Wp l Z R my B ml ret n0 Q h cells slots pc' L (v :: S)) : Wp l Z R my B ml ret n0 Q h cells slots pc L (.int j :: .ref a :: S) := by
  subst hp
  obtain ⟨-, c, hc, H⟩ := O.at hi
  have hl : jn < vs.length := (List.getElem?_eq_some_iff.mp hv).1
  refine Wp.plain (fun {p e s m args below meth c' T locs} K X eT target kt => ?_) r
  exact X.iaload K.1 (cell := c) (j := j) (v := v) (by rw [eT]; exact hc) (State.isArrayOf_alike K.2.2.2.1.alike H.1) H.2.1 (in_of H hj hjn hl) (by rw [H.get, hjn]; exact hv) (g := mkF m pc L (.int j :: .ref a :: S)) rfl rfl (hb K.2.1 hd) target kt
theorem Wp.laload {i pc' jn : Nat} {j : Int32} (O : Hp h n0 Ls) (hi : Ls[i]? = some (a, ArC Z k .long vs)) (hd : decode B pc = .ok (.laload, 1)) (hj : ¬ j < 0) (hjn : j.toNatClampNeg = jn) (hv : vs[jn]? = some v) (hp : pc + 1 = pc') (r : Wp l Z R my B ml ret n0 Q h cells slots pc' L (v :: S)) : Wp l Z R my B ml ret n0 Q h cells slots pc L (.int j :: .ref a :: S) := by
  subst hp
  obtain ⟨-, c, hc, H⟩ := O.at hi
  have hl : jn < vs.length := (List.getElem?_eq_some_iff.mp hv).1
  refine Wp.plain (fun {p e s m args below meth c' T locs} K X eT target kt => ?_) r
  exact X.laload K.1 (cell := c) (j := j) (v := v) (by rw [eT]; exact hc) (State.isArrayOf_alike K.2.2.2.1.alike H.1) H.2.1 (in_of H hj hjn hl) (by rw [H.get, hjn]; exact hv) (g := mkF m pc L (.int j :: .ref a :: S)) rfl rfl (hb K.2.1 hd) target kt
theorem Wp.caload {i pc' jn : Nat} {j : Int32} (O : Hp h n0 Ls) (hi : Ls[i]? = some (a, ArC Z k .char vs)) (hd : decode B pc = .ok (.caload, 1)) (hj : ¬ j < 0) (hjn : j.toNatClampNeg = jn) (hv : vs[jn]? = some v) (hp : pc + 1 = pc') (r : Wp l Z R my B ml ret n0 Q h cells slots pc' L (v :: S)) : Wp l Z R my B ml ret n0 Q h cells slots pc L (.int j :: .ref a :: S) := by
  subst hp
  obtain ⟨-, c, hc, H⟩ := O.at hi
  have hl : jn < vs.length := (List.getElem?_eq_some_iff.mp hv).1
  refine Wp.plain (fun {p e s m args below meth c' T locs} K X eT target kt => ?_) r
  exact X.caload K.1 (cell := c) (j := j) (v := v) (by rw [eT]; exact hc) (State.isArrayOf_alike K.2.2.2.1.alike H.1) H.2.1 (in_of H hj hjn hl) (by rw [H.get, hjn]; exact hv) (g := mkF m pc L (.int j :: .ref a :: S)) rfl rfl (hb K.2.1 hd) target kt
theorem Wp.baload {i pc' jn : Nat} {j : Int32} (O : Hp h n0 Ls) (hi : Ls[i]? = some (a, ArC Z k .byte vs)) (hd : decode B pc = .ok (.baload, 1)) (hj : ¬ j < 0) (hjn : j.toNatClampNeg = jn) (hv : vs[jn]? = some v) (hp : pc + 1 = pc') (r : Wp l Z R my B ml ret n0 Q h cells slots pc' L (v :: S)) : Wp l Z R my B ml ret n0 Q h cells slots pc L (.int j :: .ref a :: S) := by
  subst hp
  obtain ⟨-, c, hc, H⟩ := O.at hi
  have hl : jn < vs.length := (List.getElem?_eq_some_iff.mp hv).1
  refine Wp.plain (fun {p e s m args below meth c' T locs} K X eT target kt => ?_) r
  exact X.baloadBytes K.1 (cell := c) (j := j) (v := v) (by rw [eT]; exact hc) (State.isArrayOf_alike K.2.2.2.1.alike H.1) H.2.1 (in_of H hj hjn hl) (by rw [H.get, hjn]; exact hv) (g := mkF m pc L (.int j :: .ref a :: S)) rfl rfl (hb K.2.1 hd) target kt
theorem Wp.iastore {pc' jn : Nat} {j : Int32} {x : Int32} (O : Hp h n0 (LA ++ (a, ArC Z k .int vs) :: LB)) (hd : decode B pc = .ok (.iastore, 1)) (hj : ¬ j < 0) (hjn : j.toNatClampNeg = jn) (hl : jn < vs.length) (hp : pc + 1 = pc') (r : ∀ h', Hp h' n0 (LA ++ (a, ArC Z k .int (vs.set jn (.int x))) :: LB) → Wp l Z R my B ml ret n0 Q h' cells slots pc' L S) : Wp l Z R my B ml ret n0 Q h cells slots pc L (.int x :: .int j :: .ref a :: S) := by
  intro p e s m args below meth c' T locs K X eT N
  subst hp hjn
  obtain ⟨g0, c, hc, H⟩ := O.2.2 _ (List.mem_append_right _ (List.mem_cons_self ..))
  obtain ⟨T', h', X', e', W, st⟩ := RoadKit.stI X K.1 K.2.2.2.1 eT (H.arr hc) (j := j) (in_of H hj rfl hl) (g := mkF m pc L (.int x :: .int j :: .ref a :: S)) rfl rfl (hb K.2.1 hd)
  have O' := O.wr W (P' := ArC Z k .int (vs.set j.toNatClampNeg (.int x))) (fun c0 H0 => H0.set _ (rfl))
  obtain ⟨s₂, o, k1, k2⟩ := r h' O' p e s m args below meth c' T' _ K X' e' (Fr.snoc X' N g0)
  exact ⟨s₂, o, st _ k1, k2⟩
theorem Wp.lastore {pc' jn : Nat} {j : Int32} {x : Int64} (O : Hp h n0 (LA ++ (a, ArC Z k .long vs) :: LB)) (hd : decode B pc = .ok (.lastore, 1)) (hj : ¬ j < 0) (hjn : j.toNatClampNeg = jn) (hl : jn < vs.length) (hp : pc + 1 = pc') (r : ∀ h', Hp h' n0 (LA ++ (a, ArC Z k .long (vs.set jn (.long x))) :: LB) → Wp l Z R my B ml ret n0 Q h' cells slots pc' L S) : Wp l Z R my B ml ret n0 Q h cells slots pc L (.long x :: .int j :: .ref a :: S) := by
  intro p e s m args below meth c' T locs K X eT N
  subst hp hjn
  obtain ⟨g0, c, hc, H⟩ := O.2.2 _ (List.mem_append_right _ (List.mem_cons_self ..))
  obtain ⟨T', h', X', e', W, st⟩ := RoadKit.stJ X K.1 K.2.2.2.1 eT (H.arr hc) (j := j) (in_of H hj rfl hl) (g := mkF m pc L (.long x :: .int j :: .ref a :: S)) rfl rfl (hb K.2.1 hd)
  have O' := O.wr W (P' := ArC Z k .long (vs.set j.toNatClampNeg (.long x))) (fun c0 H0 => H0.set _ (rfl))
  obtain ⟨s₂, o, k1, k2⟩ := r h' O' p e s m args below meth c' T' _ K X' e' (Fr.snoc X' N g0)
  exact ⟨s₂, o, st _ k1, k2⟩
theorem Wp.castore {pc' jn : Nat} {j : Int32} {x : Int32} (O : Hp h n0 (LA ++ (a, ArC Z k .char vs) :: LB)) (hd : decode B pc = .ok (.castore, 1)) (hj : ¬ j < 0) (hjn : j.toNatClampNeg = jn) (hl : jn < vs.length) (hp : pc + 1 = pc') (r : ∀ h', Hp h' n0 (LA ++ (a, ArC Z k .char (vs.set jn (.int (nar .char x)))) :: LB) → Wp l Z R my B ml ret n0 Q h' cells slots pc' L S) : Wp l Z R my B ml ret n0 Q h cells slots pc L (.int x :: .int j :: .ref a :: S) := by
  intro p e s m args below meth c' T locs K X eT N
  subst hp hjn
  obtain ⟨g0, c, hc, H⟩ := O.2.2 _ (List.mem_append_right _ (List.mem_cons_self ..))
  obtain ⟨T', h', X', e', W, st⟩ := RoadKit.stC X K.1 K.2.2.2.1 eT (H.arr hc) (j := j) (in_of H hj rfl hl) (g := mkF m pc L (.int x :: .int j :: .ref a :: S)) rfl rfl (hb K.2.1 hd)
  have O' := O.wr W (P' := ArC Z k .char (vs.set j.toNatClampNeg (.int (nar .char x)))) (fun c0 H0 => H0.set _ (fits_nar_char x))
  obtain ⟨s₂, o, k1, k2⟩ := r h' O' p e s m args below meth c' T' _ K X' e' (Fr.snoc X' N g0)
  exact ⟨s₂, o, st _ k1, k2⟩
theorem Wp.bastore {pc' jn : Nat} {j : Int32} {x : Int32} (O : Hp h n0 (LA ++ (a, ArC Z k .byte vs) :: LB)) (hd : decode B pc = .ok (.bastore, 1)) (hj : ¬ j < 0) (hjn : j.toNatClampNeg = jn) (hl : jn < vs.length) (hp : pc + 1 = pc') (r : ∀ h', Hp h' n0 (LA ++ (a, ArC Z k .byte (vs.set jn (.int (nar .byte x)))) :: LB) → Wp l Z R my B ml ret n0 Q h' cells slots pc' L S) : Wp l Z R my B ml ret n0 Q h cells slots pc L (.int x :: .int j :: .ref a :: S) := by
  intro p e s m args below meth c' T locs K X eT N
  subst hp hjn
  obtain ⟨g0, c, hc, H⟩ := O.2.2 _ (List.mem_append_right _ (List.mem_cons_self ..))
  obtain ⟨T', h', X', e', W, st⟩ := RoadKit.stB X K.1 K.2.2.2.1 eT (H.arr hc) (j := j) (in_of H hj rfl hl) (g := mkF m pc L (.int x :: .int j :: .ref a :: S)) rfl rfl (hb K.2.1 hd)
  have O' := O.wr W (P' := ArC Z k .byte (vs.set j.toNatClampNeg (.int (nar .byte x)))) (fun c0 H0 => H0.set _ (fits_nar_byte x))
  obtain ⟨s₂, o, k1, k2⟩ := r h' O' p e s m args below meth c' T' _ K X' e' (Fr.snoc X' N g0)
  exact ⟨s₂, o, st _ k1, k2⟩
/-! objects -/
theorem FdC.fld {f : String × String × Value} {c : Cell} (F : FdC Z C f c) (hc : h[a]? = some c) : Fld Z h a C f.1 f.2.1 f.2.2 := by
  obtain ⟨cf, k, i, fd, h1, h2, h3, h4, h5, h6⟩ := F
  exact ⟨c, cf, k, i, fd, hc, h1, h2, h3, h4, h5, h6⟩
theorem ObC.exa {c : Cell} (H : ObC Z a0 C fs c) (hc : h[a]? = some c) : Exa Z h a C := by
  obtain ⟨⟨k, h1, h2, h3, h4⟩, -⟩ := H
  exact ⟨c, k, hc, h1, h2, h3, h4⟩
theorem Hp.exa {i : Nat} (O : Hp h n0 Ls) (hi : Ls[i]? = some (a, ObC Z a0 C fs)) : Exa Z h a C := by
  obtain ⟨-, c, hc, H⟩ := O.at hi
  exact H.exa hc
theorem Wp.newO {index nn pc' : Nat} (O : Hp h n0 Ls) (w : (Jvm.Cond.classLink my.cls index C).before a0 Z = true) (wi : (Jvm.Cond.instantiable C nn).before a0 Z = true) (wz : (Jvm.Cond.initialized C).before a0 Z = true) (fs : List (String × String × Value)) (hfs : ∀ f ∈ fs, Laid Z a0 C C f.1 f.2.1 ∧ ∃ t, parseFieldDescriptor f.2.1 = some t ∧ defaultValue t = f.2.2)
    (hd : decode B pc = .ok (.new index, 3)) (hc : cells + 1 ≤ R.cells) (hl : slots + nn ≤ R.slots) (hp : pc + 3 = pc') (r : ∀ h' a, Hp h' n0 ((a, ObC Z a0 C fs) :: Ls) → Wp l Z R my B ml ret n0 Q h' (cells + 1) (slots + nn) pc' L (.ref a :: S)) : Wp l Z R my B ml ret n0 Q h cells slots pc L S := by
  intro p e s m args below meth c' T locs K X eT N
  subst hp
  obtain ⟨T', h', X', e', E, A, D, -, st⟩ := RoadKit.newO X K.1 K.2.2.2.1 K.2.2.2.2.1 w wi wz eT (g := mkF m pc L S) rfl (hb K.2.1 hd) hc hl
  obtain ⟨c, kk, a1, a2, a3, a4, a5⟩ := A
  have O' : Hp h' n0 ((h.size, ObC Z a0 C fs) :: Ls) := O.new E a1 ⟨⟨kk, a2, a3, a4, a5⟩, fun f hf => by
    obtain ⟨q1, t, q2, q3⟩ := hfs f hf
    obtain ⟨c2, cf, k, i, fd, b1, b2, b3, b4, b5, b6, b7⟩ := D q1 q2
    cases a1.symm.trans b1
    exact ⟨⟨cf, k, i, fd, b2, b3, b4, b5, b6, by rw [← q3]; exact b7⟩, q1, t, q2⟩⟩
  obtain ⟨s₂, o, k1, k2⟩ := r h' h.size O' p e s m args below meth c' T' locs K X' e' N
  exact ⟨s₂, o, st _ k1, k2⟩
theorem Wp.getfield {i j index pc' : Nat} (O : Hp h n0 Ls) (hi : Ls[i]? = some (a, ObC Z a0 C fs)) (hj : fs[j]? = some (n, d, v)) (w : (Jvm.Cond.fieldLink my.cls index C n d).before a0 Z = true) (hd : decode B pc = .ok (.getfield index, 3)) (hp : pc + 3 = pc') (r : Wp l Z R my B ml ret n0 Q h cells slots pc' L (v :: S)) : Wp l Z R my B ml ret n0 Q h cells slots pc L (.ref a :: S) := by
  subst hp
  obtain ⟨-, c, hc, H⟩ := O.at hi
  have F := ((H.2 _ (List.mem_of_getElem? hj)).1).fld hc
  exact Wp.moved (fun {p e s m args below meth c' T locs} K X eT => RoadKit.getF X K.1 K.2.2.2.1 K.2.2.2.2.1 (host := "") (Or.inl w) Via.refl eT F (g := mkF m pc L (.ref a :: S)) rfl rfl (hb K.2.1 hd)) r
theorem Wp.putfield {index kk pc' : Nat} {old : Value} (O : Hp h n0 (LA ++ (a, ObC Z a0 C (F1 ++ (n, d, old) :: F2)) :: LB)) (w : (Jvm.Cond.fieldLink my.cls index C n d).before a0 Z = true) (Lw : (Jvm.Cond.lays C C n d).before a0 Z = true ∨ ((Jvm.Cond.laysFinal C C n d).before a0 Z = true ∧ my.cls = C ∧ my.name = "<init>")) (wi : (Jvm.Cond.instantiable C kk).before a0 Z = true)
    (hty : parseFieldDescriptor d = some ty) (hn : narrow ty v = v) (hf : fits ty v = true) (hne : ∀ f ∈ F1 ++ F2, f.1 ≠ n) (hd : decode B pc = .ok (.putfield index, 3)) (hp : pc + 3 = pc') (r : ∀ h', Hp h' n0 (LA ++ (a, ObC Z a0 C (F1 ++ (n, d, v) :: F2)) :: LB) → Wp l Z R my B ml ret n0 Q h' cells slots pc' L S) : Wp l Z R my B ml ret n0 Q h cells slots pc L (v :: .ref a :: S) := by
  intro p e s m args below meth c' T locs K X eT N
  subst hp
  obtain ⟨g0, c, hc, H⟩ := O.2.2 _ (List.mem_append_right _ (List.mem_cons_self ..))
  have Fm := H.2 (n, d, old) (List.mem_append_right _ (List.mem_cons_self ..))
  obtain ⟨T', h', X', e', W, st⟩ := RoadKit.putF X K.1 K.2.2.2.1 K.2.2.2.2.1 (host := "") (Or.inl w) Via.refl eT (Fm.1.fld hc) (H.exa hc) (Lw.imp id fun q => ⟨q.1, q.2.1, K.2.2.2.2.2.1.trans q.2.2⟩) wi hty hn hf (g := mkF m pc L (v :: .ref a :: S)) rfl rfl (hb K.2.1 hd)
  have O' := O.wr W (P' := ObC Z a0 C (F1 ++ (n, d, v) :: F2)) (fun c0 H0 => by
    obtain ⟨⟨k, h1, h2, h3, h4⟩, h5⟩ := H0
    refine ⟨⟨k, h1, h2, h3, fun q => by rw [sz_set]; exact h4 q⟩, fun f hf => ?_⟩
    have old' : ∀ f ∈ F1 ++ F2, FdC Z C f (c0.setSlot (RoadKit.slotOf Z C n d) v) ∧ Laid Z a0 C C f.1 f.2.1 ∧ ∃ t, parseFieldDescriptor f.2.1 = some t := fun f hf => by
      obtain ⟨⟨cf, kf, i, fd, b1, b2, b3, b4, b5, b6⟩, q1, t, q2⟩ := h5 f (by
        rcases List.mem_append.mp hf with u | u
        · exact List.mem_append_left _ u
        · exact List.mem_append_right _ (List.mem_cons_of_mem _ u))
      have ne := slot_ne q1 Fm.2.1 (hne f hf) q2 hty
      have es : RoadKit.slotOf Z C f.1 f.2.1 = fd.slot := by simp [RoadKit.slotOf, b1]
      refine ⟨⟨cf, kf, i, fd, b1, b2, b3, b4, b5, ?_⟩, q1, t, q2⟩
      show (c0.slots.setIfInBounds (RoadKit.slotOf Z C n d) v)[fd.slot]? = _
      rw [Array.getElem?_setIfInBounds_ne (by rw [← es]; exact Ne.symm ne)]; exact b6
    rcases List.mem_append.mp hf with u | u
    · exact old' f (List.mem_append_left _ u)
    · rcases List.mem_cons.mp u with rfl | u
      · obtain ⟨⟨cf, kf, i, fd, b1, b2, b3, b4, b5, b6⟩, q1, t, q2⟩ := h5 (n, d, old) (List.mem_append_right _ (List.mem_cons_self ..))
        have es : RoadKit.slotOf Z C n d = fd.slot := by
          have b1' : Z.fieldFound? C n d = some (cf, kf, i, fd) := b1
          simp [RoadKit.slotOf, b1']
        have hlt : fd.slot < c0.slots.size := (Array.getElem?_eq_some_iff.mp b6).1
        refine ⟨⟨cf, kf, i, fd, b1, b2, b3, b4, b5, ?_⟩, q1, t, q2⟩
        show (c0.slots.setIfInBounds (RoadKit.slotOf Z C n d) v)[fd.slot]? = _
        rw [es, Array.getElem?_setIfInBounds_self_of_lt hlt]
      · exact old' f (List.mem_append_right _ u))
  obtain ⟨s₂, o, k1, k2⟩ := r h' O' p e s m args below meth c' T' _ K X' e' (Fr.snoc X' N g0)
  exact ⟨s₂, o, st _ k1, k2⟩
end Heap
abbrev rmk (f c s w : Nat) : Room := { frames := f, cells := c, slots := s, locals := w }
end Jvm.OwnKit
namespace Jvm.Pilot.@@N@@
open Jvm Jvm.ClassFile Sem Op Lib Jvm.Free Jvm.Stand Jvm.LawKit Jvm.RoadKit Bundle Jvm.OwnKit Jvm.Pilot.@@N@@.Jvm.D

theorem d0_0 : decode prog_73_method_2_code 0 = .ok (.iload_n 0, 1) := by decide +kernel
theorem d0_1 : decode prog_73_method_2_code 1 = .ok (.istore_n 3, 1) := by decide +kernel
theorem d0_2 : decode prog_73_method_2_code 2 = .ok (.iload_n 2, 1) := by decide +kernel
theorem d0_3 : decode prog_73_method_2_code 3 = .ok (.istore 4, 2) := by decide +kernel
theorem d0_5 : decode prog_73_method_2_code 5 = .ok (.iload_n 3, 1) := by decide +kernel
theorem d0_6 : decode prog_73_method_2_code 6 = .ok (.sipush 128, 3) := by decide +kernel
theorem d0_9 : decode prog_73_method_2_code 9 = .ok (.if_icmp .lt 24, 3) := by decide +kernel
theorem d0_12 : decode prog_73_method_2_code 12 = .ok (.aload_n 1, 1) := by decide +kernel
theorem d0_13 : decode prog_73_method_2_code 13 = .ok (.iload 4, 2) := by decide +kernel
theorem d0_15 : decode prog_73_method_2_code 15 = .ok (.iinc 4 1, 3) := by decide +kernel
theorem d0_18 : decode prog_73_method_2_code 18 = .ok (.iload_n 3, 1) := by decide +kernel
theorem d0_19 : decode prog_73_method_2_code 19 = .ok (.sipush 128, 3) := by decide +kernel
theorem d0_22 : decode prog_73_method_2_code 22 = .ok (.ior, 1) := by decide +kernel
theorem d0_23 : decode prog_73_method_2_code 23 = .ok (.i2b, 1) := by decide +kernel
theorem d0_24 : decode prog_73_method_2_code 24 = .ok (.bastore, 1) := by decide +kernel
theorem d0_25 : decode prog_73_method_2_code 25 = .ok (.iload_n 3, 1) := by decide +kernel
theorem d0_26 : decode prog_73_method_2_code 26 = .ok (.bipush 7, 2) := by decide +kernel
theorem d0_28 : decode prog_73_method_2_code 28 = .ok (.iushr, 1) := by decide +kernel
theorem d0_29 : decode prog_73_method_2_code 29 = .ok (.istore_n 3, 1) := by decide +kernel
theorem d0_30 : decode prog_73_method_2_code 30 = .ok (.goto (-25), 3) := by decide +kernel
theorem d0_33 : decode prog_73_method_2_code 33 = .ok (.aload_n 1, 1) := by decide +kernel
theorem d0_34 : decode prog_73_method_2_code 34 = .ok (.iload 4, 2) := by decide +kernel
theorem d0_36 : decode prog_73_method_2_code 36 = .ok (.iinc 4 1, 3) := by decide +kernel
theorem d0_39 : decode prog_73_method_2_code 39 = .ok (.iload_n 3, 1) := by decide +kernel
theorem d0_40 : decode prog_73_method_2_code 40 = .ok (.i2b, 1) := by decide +kernel
theorem d0_41 : decode prog_73_method_2_code 41 = .ok (.bastore, 1) := by decide +kernel
theorem d0_42 : decode prog_73_method_2_code 42 = .ok (.iload 4, 2) := by decide +kernel
theorem d0_44 : decode prog_73_method_2_code 44 = .ok (.ireturn, 1) := by decide +kernel
theorem d1_0 : decode method_3_code 0 = .ok (.iload_n 1, 1) := by decide +kernel
theorem d1_1 : decode method_3_code 1 = .ok (.iload_n 2, 1) := by decide +kernel
theorem d1_2 : decode method_3_code 2 = .ok (.if_icmp .lt 10, 3) := by decide +kernel
theorem d1_5 : decode method_3_code 5 = .ok (.iload_n 1, 1) := by decide +kernel
theorem d1_6 : decode method_3_code 6 = .ok (.iload_n 2, 1) := by decide +kernel
theorem d1_7 : decode method_3_code 7 = .ok (.iload_n 3, 1) := by decide +kernel
theorem d1_8 : decode method_3_code 8 = .ok (.iadd, 1) := by decide +kernel
theorem d1_9 : decode method_3_code 9 = .ok (.if_icmp .lt 10, 3) := by decide +kernel
theorem d1_12 : decode method_3_code 12 = .ok (.iload 5, 2) := by decide +kernel
theorem d1_14 : decode method_3_code 14 = .ok (.istore 6, 2) := by decide +kernel
theorem d1_16 : decode method_3_code 16 = .ok (.goto 46, 3) := by decide +kernel
theorem d1_19 : decode method_3_code 19 = .ok (.iload_n 1, 1) := by decide +kernel
theorem d1_20 : decode method_3_code 20 = .ok (.iload_n 2, 1) := by decide +kernel
theorem d1_21 : decode method_3_code 21 = .ok (.isub, 1) := by decide +kernel
theorem d1_22 : decode method_3_code 22 = .ok (.istore 7, 2) := by decide +kernel
theorem d1_24 : decode method_3_code 24 = .ok (.iload 4, 2) := by decide +kernel
theorem d1_26 : decode method_3_code 26 = .ok (.bipush 7, 2) := by decide +kernel
theorem d1_28 : decode method_3_code 28 = .ok (.iload 7, 2) := by decide +kernel
theorem d1_30 : decode method_3_code 30 = .ok (.imul, 1) := by decide +kernel
theorem d1_31 : decode method_3_code 31 = .ok (.iushr, 1) := by decide +kernel
theorem d1_32 : decode method_3_code 32 = .ok (.bipush 127, 2) := by decide +kernel
theorem d1_34 : decode method_3_code 34 = .ok (.iand, 1) := by decide +kernel
theorem d1_35 : decode method_3_code 35 = .ok (.istore 8, 2) := by decide +kernel
theorem d1_37 : decode method_3_code 37 = .ok (.iload 7, 2) := by decide +kernel
theorem d1_39 : decode method_3_code 39 = .ok (.iload_n 3, 1) := by decide +kernel
theorem d1_40 : decode method_3_code 40 = .ok (.iconst 1, 1) := by decide +kernel
theorem d1_41 : decode method_3_code 41 = .ok (.isub, 1) := by decide +kernel
theorem d1_42 : decode method_3_code 42 = .ok (.if_icmp .ge 15, 3) := by decide +kernel
theorem d1_45 : decode method_3_code 45 = .ok (.iload 8, 2) := by decide +kernel
theorem d1_47 : decode method_3_code 47 = .ok (.sipush 128, 3) := by decide +kernel
theorem d1_50 : decode method_3_code 50 = .ok (.ior, 1) := by decide +kernel
theorem d1_51 : decode method_3_code 51 = .ok (.i2b, 1) := by decide +kernel
theorem d1_52 : decode method_3_code 52 = .ok (.istore 6, 2) := by decide +kernel
theorem d1_54 : decode method_3_code 54 = .ok (.goto 8, 3) := by decide +kernel
theorem d1_57 : decode method_3_code 57 = .ok (.iload 8, 2) := by decide +kernel
theorem d1_59 : decode method_3_code 59 = .ok (.i2b, 1) := by decide +kernel
theorem d1_60 : decode method_3_code 60 = .ok (.istore 6, 2) := by decide +kernel
theorem d1_62 : decode method_3_code 62 = .ok (.aload_n 0, 1) := by decide +kernel
theorem d1_63 : decode method_3_code 63 = .ok (.iload_n 1, 1) := by decide +kernel
theorem d1_64 : decode method_3_code 64 = .ok (.baload, 1) := by decide +kernel
theorem d1_65 : decode method_3_code 65 = .ok (.iload 6, 2) := by decide +kernel
theorem d1_67 : decode method_3_code 67 = .ok (.if_icmp .ne 7, 3) := by decide +kernel
theorem d1_70 : decode method_3_code 70 = .ok (.iconst 1, 1) := by decide +kernel
theorem d1_71 : decode method_3_code 71 = .ok (.goto 4, 3) := by decide +kernel
theorem d1_74 : decode method_3_code 74 = .ok (.iconst 0, 1) := by decide +kernel
theorem d1_75 : decode method_3_code 75 = .ok (.ireturn, 1) := by decide +kernel

theorem pn_e : plainName "com/example/frugal_retrieval/frugalretrieval/index/VarInt" = true := by first | (simp [plainName, overriddenIn]; done) | decide +kernel
theorem pn_l : plainName "com/example/frugal_retrieval/frugalretrieval/index/VarIntEncodePinLaw" = true := by first | (simp [plainName, overriddenIn]; done) | decide +kernel

theorem pd_0 : parseMethodDescriptor "(I[BI)I" = some ⟨[.int, (.array .byte), .int], some .int⟩ := by decide +kernel
theorem pd_1 : parseMethodDescriptor "([BIIIIB)Z" = some ⟨[(.array .byte), .int, .int, .int, .int, .byte], some .boolean⟩ := by decide +kernel

/-! small naturals as ints -/
theorem own_lt {i n : Nat} (hi : i < 2147483648) (hn : n < 2147483648) : (Int32.ofNat i < Int32.ofNat n) ↔ i < n := by
  rw [Int32.lt_iff_toInt_lt, Int32.toInt_ofNat_of_lt (by omega), Int32.toInt_ofNat_of_lt (by omega)]
  omega
theorem own_nn {n : Nat} (hn : n < 2147483648) : ¬ Int32.ofNat n < 0 := by
  rw [Int32.lt_iff_toInt_lt, Int32.toInt_ofNat_of_lt (by omega), show (0 : Int32).toInt = 0 from rfl]
  omega
theorem own_n32 {n : Nat} (hn : n < 2147483648) : (Int32.ofNat n).toNatClampNeg = n := by
  rw [Int32.toNatClampNeg, Int32.toInt_ofNat_of_lt (by omega)]; rfl
theorem own_inj {i n : Nat} (hi : i < 2147483648) (hn : n < 2147483648) : (Int32.ofNat i = Int32.ofNat n) ↔ i = n := by
  rw [← Int32.toInt_inj, Int32.toInt_ofNat_of_lt (by omega), Int32.toInt_ofNat_of_lt (by omega)]
  omega
theorem own_add (i j : Nat) : Int32.ofNat i + Int32.ofNat j = Int32.ofNat (i + j) := (Int32.ofNat_add i j).symm
theorem own_sub {i j : Nat} (h : j ≤ i) : Int32.ofNat i - Int32.ofNat j = Int32.ofNat (i - j) := by
  have e : Int32.ofNat i = Int32.ofNat (i - j) + Int32.ofNat j := by rw [own_add]; congr 1; omega
  rw [e, Int32.add_sub_cancel]
theorem own_one (i : Nat) : Int32.ofNat i + (1 : Int32) = Int32.ofNat (i + 1) := (Int32.ofNat_add i 1).symm
theorem own_toInt {n : Nat} (hn : n < 2147483648) : (Int32.ofNat n).toInt = n := Int32.toInt_ofNat_of_lt (by omega)
/-- an int that isn't negative is a natural -/
theorem own_nat {x : Int32} {b : Nat} (h0 : 0 ≤ x.toInt) (hb : x.toInt ≤ b) : ∃ n : Nat, n ≤ b ∧ n < 2147483648 ∧ x = Int32.ofNat n := by
  have := x.toInt_lt
  refine ⟨x.toInt.toNat, by omega, by omega, Int32.toInt_inj.mp ?_⟩
  rw [own_toInt (by omega)]; omega

/-- a byte with the sign that says 'more' -/
def own_c (u : Nat) : Int32 := (Int32.ofNat u ||| (128 : Int32)).toInt8.toInt32
def own_l (u : Nat) : Int32 := (Int32.ofNat u).toInt8.toInt32
def own_enc : Nat → List Value → Nat → Nat → List Value
  | 0, vs, p, u => vs.set p (.int (own_l u))
  | k + 1, vs, p, u => own_enc k (vs.set p (.int (own_c u))) (p + 1) (u / 128)
/-- k turns and one byte more -/
def own_K : Nat → Nat → Prop
  | 0, u => u < 128
  | k + 1, u => 128 ≤ u ∧ own_K k (u / 128)
theorem own_enclen : ∀ (k : Nat) (vs : List Value) (p u : Nat), (own_enc k vs p u).length = vs.length
  | 0, vs, p, u => by simp [own_enc]
  | k + 1, vs, p, u => by rw [own_enc, own_enclen k]; simp
/-- what the j-th byte is -/
def own_at (k j u : Nat) : Int32 := if j < k then own_c (u / 128 ^ j) else own_l (u / 128 ^ j)
theorem own_encget : ∀ (k : Nat) (vs : List Value) (p u q : Nat), p + k < vs.length → (own_enc k vs p u)[q]? = if p ≤ q ∧ q ≤ p + k then some (.int (own_at k (q - p) u)) else vs[q]?
  | 0, vs, p, u, q, h => by
    rw [own_enc, List.getElem?_set]
    by_cases e : p = q
    · subst e
      rw [if_pos rfl, if_pos (by omega), if_pos (by omega), Nat.sub_self]; simp [own_at]
    · rw [if_neg e, if_neg (by omega)]
  | k + 1, vs, p, u, q, h => by
    rw [own_enc, own_encget k _ _ _ _ (by simp; omega), List.getElem?_set]
    by_cases e : p = q
    · subst e
      rw [if_neg (by omega), if_pos rfl, if_pos (by omega), if_pos (by omega), Nat.sub_self]; simp [own_at]
    · rw [if_neg e]
      by_cases g : p + 1 ≤ q ∧ q ≤ p + 1 + k
      · rw [if_pos g, if_pos (by omega)]
        have e1 : q - p = (q - (p + 1)) + 1 := by omega
        rw [e1]
        have e2 : ∀ j, u / 128 / 128 ^ j = u / 128 ^ (j + 1) := fun j => by rw [Nat.div_div_eq_div_mul, Nat.pow_succ, Nat.mul_comm]
        unfold own_at
        rw [e2]
        by_cases g2 : q - (p + 1) < k
        · rw [if_pos g2, if_pos (by omega)]
        · rw [if_neg g2, if_neg (by omega)]
      · rw [if_neg g, if_neg (by omega)]
/-- what the law wants at place q -/
def own_want (q t n u : Nat) (f : Int32) : Int32 := if q < t then f else if q < t + n then (if q - t < n - 1 then ((Free.XT.ushr (Int32.ofNat u) ((7 : Int32) * Int32.ofNat (q - t)) &&& (127 : Int32)) ||| (128 : Int32)).toInt8.toInt32 else (Free.XT.ushr (Int32.ofNat u) ((7 : Int32) * Int32.ofNat (q - t)) &&& (127 : Int32)).toInt8.toInt32) else f
theorem own_toNat {u : Nat} (h : u < 2147483648) : (Int32.ofNat u).toUInt32.toNat = u := by
  show (BitVec.ofNat 32 u).toNat = u
  rw [BitVec.toNat_ofNat]; omega
theorem own_shr {u j : Nat} (hu : u < 2147483648) (hj : j ≤ 4) : Free.XT.ushr (Int32.ofNat u) ((7 : Int32) * Int32.ofNat j) = Int32.ofNat (u / 128 ^ j) := by
  have e : (((7 : Int32) * Int32.ofNat j) &&& 31).toUInt32.toNat = 7 * j := by
    have hh : j = 0 ∨ j = 1 ∨ j = 2 ∨ j = 3 ∨ j = 4 := by omega
    rcases hh with rfl | rfl | rfl | rfl | rfl <;> decide
  have g : ((Int32.ofNat u).toUInt32 >>> (((7 : Int32) * Int32.ofNat j) &&& 31).toUInt32).toNat = u / 128 ^ j := by
    rw [UInt32.toNat_shiftRight, own_toNat hu, e, Nat.mod_eq_of_lt (by omega), Nat.shiftRight_eq_div_pow, show (128 : Nat) = 2 ^ 7 from rfl, ← Nat.pow_mul]
  unfold Free.XT.ushr
  apply Int32.toBitVec_inj.mp
  apply BitVec.eq_of_toNat_eq
  show ((Int32.ofNat u).toUInt32 >>> (((7 : Int32) * Int32.ofNat j) &&& 31).toUInt32).toNat = (BitVec.ofNat 32 (u / 128 ^ j)).toNat
  have : u / 128 ^ j ≤ u := Nat.div_le_self ..
  rw [g, BitVec.toNat_ofNat, Nat.mod_eq_of_lt (by omega)]
theorem own_low8 (x : Int32) : ((x &&& (127 : Int32)) ||| (128 : Int32)).toInt8 = (x ||| (128 : Int32)).toInt8 := by
  apply Int8.toBitVec_inj.mp
  show (((x.toBitVec &&& 127#32) ||| 128#32).signExtend 8) = ((x.toBitVec ||| 128#32).signExtend 8)
  generalize x.toBitVec = b
  apply BitVec.eq_of_getLsbD_eq
  intro i hi
  have hh : i = 0 ∨ i = 1 ∨ i = 2 ∨ i = 3 ∨ i = 4 ∨ i = 5 ∨ i = 6 ∨ i = 7 := by omega
  rcases hh with rfl | rfl | rfl | rfl | rfl | rfl | rfl | rfl <;> simp [BitVec.getLsbD_signExtend, BitVec.getLsbD_or, BitVec.getLsbD_and]
theorem own_low7 {u : Nat} (h : u < 128) : (Int32.ofNat u &&& (127 : Int32)) = Int32.ofNat u := by
  have k : ∀ m : Fin 128, (Int32.ofNat m.val &&& (127 : Int32)) = Int32.ofNat m.val := by decide +kernel
  exact k ⟨u, h⟩
theorem own_Kdiv : ∀ (k u : Nat), own_K k u → u / 128 ^ k < 128
  | 0, u, h => by simpa [own_K] using h
  | k + 1, u, h => by
    have := own_Kdiv k (u / 128) h.2
    rw [Nat.div_div_eq_div_mul] at this
    rw [Nat.pow_succ, Nat.mul_comm]; exact this
/-- the law's want is what encode writes -/
theorem own_all {k t u q : Nat} {f : Int32} (hk : k ≤ 4) (hK : own_K k u) (hu : u < 2147483648) (ht : t ≤ 7) (hq : q < 12) : (own_enc k (List.replicate 12 (.int f)) t u)[q]? = some (.int (own_want q t (k + 1) u f)) := by
  rw [own_encget k _ _ _ _ (by simp; omega)]
  unfold own_want
  by_cases g : t ≤ q ∧ q ≤ t + k
  · rw [if_pos g, if_neg (by omega), if_pos (by omega), own_shr hu (by omega)]
    unfold own_at
    by_cases g2 : q - t < k
    · rw [if_pos g2, if_pos (by omega), own_low8]; rfl
    · have e : q - t = k := by omega
      rw [if_neg g2, if_neg (by omega), e, own_low7 (own_Kdiv k u hK)]; rfl
  · rw [if_neg g]
    have e : (List.replicate 12 (Value.int f))[q]? = some (.int f) := by rw [List.getElem?_replicate, if_pos hq]
    rw [e]
    by_cases g2 : q < t
    · rw [if_pos g2]
    · rw [if_neg g2, if_neg (by omega)]
theorem own_shrv (x y : Int32) (h : 0 ≤ x.toInt) : 0 ≤ (Free.XT.ushr x y).toInt ∧ (Free.XT.ushr x y).toInt ≤ (2147483647 : Nat) := by
  have h1 := x.toInt_lt
  obtain ⟨n, -, hn, rfl⟩ := own_nat (b := 2147483647) h (by omega)
  have e : (Free.XT.ushr (Int32.ofNat n) y) = Int32.ofNat ((Int32.ofNat n).toUInt32 >>> (y &&& 31).toUInt32).toNat := by
    unfold Free.XT.ushr
    apply Int32.toBitVec_inj.mp
    apply BitVec.eq_of_toNat_eq
    show ((Int32.ofNat n).toUInt32 >>> (y &&& 31).toUInt32).toNat = (BitVec.ofNat 32 _).toNat
    rw [BitVec.toNat_ofNat, Nat.mod_eq_of_lt (UInt32.toNat_lt _)]
  have g : ((Int32.ofNat n).toUInt32 >>> (y &&& 31).toUInt32).toNat ≤ n := by
    rw [UInt32.toNat_shiftRight, own_toNat hn, Nat.shiftRight_eq_div_pow]; exact Nat.div_le_self ..
  rw [e, own_toInt (by omega)]; omega
theorem own_div128 {u : Nat} (hu : u < 2147483648) : Free.XT.ushr (Int32.ofNat u) (7 : Int32) = Int32.ofNat (u / 128) := by
  have := own_shr (j := 1) hu (by omega)
  simpa using this
theorem own_seven (x : Int32) : 0 ≤ (x &&& (7 : Int32)).toInt ∧ (x &&& (7 : Int32)).toInt ≤ (7 : Nat) := by
  have h1 := c_and x 7 (by decide)
  have e : (7 : Int32).toInt = 7 := rfl
  omega

theorem own_narb (x : Int32) : nar .byte (x.toInt8.toInt32) = x.toInt8.toInt32 := by
  show (x.toInt8.toInt32).toInt8.toInt32 = _
  simp
theorem own_K0 {u : Nat} (h : u < 128) : own_K 0 u := h
theorem own_K1 {u : Nat} (h1 : 128 ≤ u) (h2 : u < 16384) : own_K 1 u := ⟨h1, (by show u / 128 < 128; omega)⟩
theorem own_K2 {u : Nat} (h1 : 16384 ≤ u) (h2 : u < 2097152) : own_K 2 u := ⟨by omega, own_K1 (by omega) (by omega)⟩
theorem own_K3 {u : Nat} (h1 : 2097152 ≤ u) (h2 : u < 268435456) : own_K 3 u := ⟨by omega, own_K2 (by omega) (by omega)⟩
theorem own_K4 {u : Nat} (h1 : 268435456 ≤ u) (h2 : u < 2147483648) : own_K 4 u := ⟨by omega, own_K3 (by omega) (by omega)⟩

set_option maxRecDepth 65536 in
set_option maxHeartbeats 40000000 in
theorem lp (l : Launch) (Z : State) (a0 : Array Value) (hw : ∀ d ∈ tables_1, d.before a0 Z = true) (v0 t0 : Int32) (b : Addr) (kb : ClassId) (n0 : Nat) {Ls : List (Addr × (Cell → Prop))} :
    ∀ (kk : Nat) (vs : List Value) (p u : Nat) (h : Heap), own_K kk u → u < 2147483648 → p + kk < vs.length → vs.length < 100 → Hp h n0 ((b, ArC Z kb .byte vs) :: Ls) → Wp l Z (rmk 0 0 0 0) (⟨"com/example/frugal_retrieval/frugalretrieval/index/VarInt", "encode", "(I[BI)I"⟩ : MethodName) prog_73_method_2_code 5 (some .int) n0 (fun v h' => v = some (.int (Int32.ofNat (p + kk + 1))) ∧ Hp h' n0 ((b, ArC Z kb .byte (own_enc kk vs p u)) :: Ls)) h 0 0 5 #[.val (.int v0), .val (.ref b), .val (.int t0), .val (.int (Int32.ofNat u)), .val (.int (Int32.ofNat p))] [] := by
  intro kk
  induction kk with
  | zero =>
    intro vs p u h hK hu hl hv O
    have hK : u < 128 := hK
    refine Wp.iloadN (pc' := 6) d0_5 rfl rfl ?_
    refine Wp.sipush (z := (128 : Int32)) (pc' := 9) d0_6 (by decide) rfl ?_
    refine Wp.icmpY (pc' := 33) d0_9 ((own_lt (n := 128) (by omega) (by omega)).mpr hK) (by decide) (by decide) ?_
    refine Wp.aloadN (pc' := 34) d0_33 rfl rfl rfl ?_
    refine Wp.iload (pc' := 36) d0_34 rfl rfl ?_
    refine Wp.iinc (z := (Int32.ofNat (p + 1))) (L' := #[.val (.int v0), .val (.ref b), .val (.int t0), .val (.int (Int32.ofNat u)), .val (.int (Int32.ofNat (p + 1)))]) (pc' := 39) d0_36 rfl (own_one p) rfl rfl ?_
    refine Wp.iloadN (pc' := 40) d0_39 rfl rfl ?_
    refine Wp.i2b (z := (((Int32.ofNat u)).toInt8.toInt32)) (pc' := 41) d0_40 rfl rfl ?_
    refine Wp.bastore (LA := []) (jn := p) (pc' := 42) O d0_41 (own_nn (by omega)) (own_n32 (by omega)) (by omega) rfl ?_
    intro h1 O1
    rw [own_narb] at O1
    have O1 : Hp h1 n0 ((b, ArC Z kb .byte (vs.set p (.int (own_l u)))) :: Ls) := O1
    refine Wp.iload (pc' := 44) d0_42 rfl rfl ?_
    exact Wp.retI rfl d0_44 (by decide) (by decide) ⟨rfl, O1⟩
  | succ kk ih =>
    intro vs p u h hK hu hl hv O
    have hK : 128 ≤ u ∧ own_K kk (u / 128) := hK
    refine Wp.iloadN (pc' := 6) d0_5 rfl rfl ?_
    refine Wp.sipush (z := (128 : Int32)) (pc' := 9) d0_6 (by decide) rfl ?_
    refine Wp.icmpN (pc' := 12) d0_9 (fun q => by have q2 := (own_lt (i := u) (n := 128) (by omega) (by omega)).mp q; omega) rfl ?_
    refine Wp.aloadN (pc' := 13) d0_12 rfl rfl rfl ?_
    refine Wp.iload (pc' := 15) d0_13 rfl rfl ?_
    refine Wp.iinc (z := (Int32.ofNat (p + 1))) (L' := #[.val (.int v0), .val (.ref b), .val (.int t0), .val (.int (Int32.ofNat u)), .val (.int (Int32.ofNat (p + 1)))]) (pc' := 18) d0_15 rfl (own_one p) rfl rfl ?_
    refine Wp.iloadN (pc' := 19) d0_18 rfl rfl ?_
    refine Wp.sipush (z := (128 : Int32)) (pc' := 22) d0_19 (by decide) rfl ?_
    refine Wp.ior (z := ((Int32.ofNat u) ||| (128 : Int32))) (pc' := 23) d0_22 rfl rfl ?_
    refine Wp.i2b (z := ((((Int32.ofNat u) ||| (128 : Int32))).toInt8.toInt32)) (pc' := 24) d0_23 rfl rfl ?_
    refine Wp.bastore (LA := []) (jn := p) (pc' := 25) O d0_24 (own_nn (by omega)) (own_n32 (by omega)) (by omega) rfl ?_
    intro h1 O1
    rw [own_narb] at O1
    have O1 : Hp h1 n0 ((b, ArC Z kb .byte (vs.set p (.int (own_c u)))) :: Ls) := O1
    refine Wp.iloadN (pc' := 26) d0_25 rfl rfl ?_
    refine Wp.bipush (z := (7 : Int32)) (pc' := 28) d0_26 (by decide) rfl ?_
    refine Wp.iushr (z := (Int32.ofNat (u / 128))) (pc' := 29) d0_28 (own_div128 (by omega)) rfl ?_
    refine Wp.istoreN (L' := #[.val (.int v0), .val (.ref b), .val (.int t0), .val (.int (Int32.ofNat (u / 128))), .val (.int (Int32.ofNat (p + 1)))]) (pc' := 30) d0_29 rfl rfl ?_
    refine Wp.goto (pc' := 5) d0_30 (by decide) (by decide) ?_
    rw [show p + (kk + 1) + 1 = p + 1 + kk + 1 from by omega]
    exact ih (vs.set p (.int (own_c u))) (p + 1) (u / 128) h1 hK.2 (by omega) (by rw [List.length_set]; omega) (by rw [List.length_set]; omega) O1

set_option maxRecDepth 65536 in
set_option maxHeartbeats 40000000 in
theorem rm_e (l : Launch) (Z : State) (a0 : Array Value) (hw : ∀ d ∈ tables_1, d.before a0 Z = true) (b : Addr) (kb : ClassId) (vs : List Value) (kk t u : Nat) (hK : own_K kk u) (hu : u < 2147483648) (hl : t + kk < vs.length) (hv : vs.length < 100) (h : Heap) (n0 : Nat) {Ls : List (Addr × (Cell → Prop))} (O : Hp h n0 ((b, ArC Z kb .byte vs) :: Ls)) :
    Met l Z (⟨"com/example/frugal_retrieval/frugalretrieval/index/VarInt", "encode", "(I[BI)I"⟩ : MethodName) prog_73_method_2_code 5 (some .int) (rmk 0 0 0 0) #[(.int (Int32.ofNat u)), (.ref b), (.int (Int32.ofNat t))] h n0 (fun v h' => v = some (.int (Int32.ofNat (t + kk + 1))) ∧ Hp h' n0 ((b, ArC Z kb .byte (own_enc kk vs t u)) :: Ls)) := by
  refine Met.of (L0 := #[.val (.int (Int32.ofNat u)), .val (.ref b), .val (.int (Int32.ofNat t)), .unset, .unset]) pn_e (fun m => rfl) ?_
  refine Wp.iloadN (pc' := 1) d0_0 rfl rfl ?_
  refine Wp.istoreN (L' := #[.val (.int (Int32.ofNat u)), .val (.ref b), .val (.int (Int32.ofNat t)), .val (.int (Int32.ofNat u)), .unset]) (pc' := 2) d0_1 rfl rfl ?_
  refine Wp.iloadN (pc' := 3) d0_2 rfl rfl ?_
  refine Wp.istore (L' := #[.val (.int (Int32.ofNat u)), .val (.ref b), .val (.int (Int32.ofNat t)), .val (.int (Int32.ofNat u)), .val (.int (Int32.ofNat t))]) (pc' := 5) d0_3 rfl rfl ?_
  exact lp l Z a0 hw _ _ b kb n0 kk vs t u h hK hu hl hv O

set_option maxRecDepth 65536 in
set_option maxHeartbeats 40000000 in
theorem rm_o (l : Launch) (Z : State) (a0 : Array Value) (hw : ∀ d ∈ tables_1, d.before a0 Z = true) (b : Addr) (kb : ClassId) (vs : List Value) (q t n u : Nat) (f : Int32) (hq : q < 12) (ht : t ≤ 7) (hn : n ≤ 5) (hn1 : 1 ≤ n) (hu : u < 2147483648) (hv : vs[q]? = some (.int (own_want q t n u f))) (h : Heap) (n0 : Nat) {Ls : List (Addr × (Cell → Prop))} (O : Hp h n0 ((b, ArC Z kb .byte vs) :: Ls)) :
    Met l Z (⟨"com/example/frugal_retrieval/frugalretrieval/index/VarIntEncodePinLaw", "ok", "([BIIIIB)Z"⟩ : MethodName) method_3_code 9 (some .boolean) (rmk 0 0 0 0) #[(.ref b), (.int (Int32.ofNat q)), (.int (Int32.ofNat t)), (.int (Int32.ofNat n)), (.int (Int32.ofNat u)), (.int f)] h n0 (fun v h' => v = some (.int 1) ∧ h = h') := by
  refine Met.of (L0 := #[.val (.ref b), .val (.int (Int32.ofNat q)), .val (.int (Int32.ofNat t)), .val (.int (Int32.ofNat n)), .val (.int (Int32.ofNat u)), .val (.int f), .unset, .unset, .unset]) pn_l (fun m => rfl) ?_
  have tail : ∀ (z : Int32) (s7 s8 : Slot), z = own_want q t n u f → Wp l Z (rmk 0 0 0 0) (⟨"com/example/frugal_retrieval/frugalretrieval/index/VarIntEncodePinLaw", "ok", "([BIIIIB)Z"⟩ : MethodName) method_3_code 9 (some .boolean) n0 (fun v h1 => v = some (.int 1) ∧ h = h1) h 0 0 62 #[.val (.ref b), .val (.int (Int32.ofNat q)), .val (.int (Int32.ofNat t)), .val (.int (Int32.ofNat n)), .val (.int (Int32.ofNat u)), .val (.int f), .val (.int z), s7, s8] [] := by
    intro z s7 s8 hz
    refine Wp.aloadN (pc' := 63) d1_62 rfl rfl rfl ?_
    refine Wp.iloadN (pc' := 64) d1_63 rfl rfl ?_
    refine Wp.baload (i := 0) (jn := q) (v := (.int (own_want q t n u f))) (pc' := 65) O rfl d1_64 (own_nn (by omega)) (own_n32 (by omega)) hv rfl ?_
    refine Wp.iload (pc' := 67) d1_65 rfl rfl ?_
    refine Wp.icmpN (pc' := 70) d1_67 (not_not_intro hz.symm) rfl ?_
    refine Wp.iconst (z := (1 : Int32)) (pc' := 71) d1_70 (by decide) rfl ?_
    refine Wp.goto (pc' := 75) d1_71 (by decide) (by decide) ?_
    exact Wp.retS (t := .boolean) rfl (Or.inl rfl) rfl d1_75 (by decide) (by decide) ⟨rfl, rfl⟩
  refine Wp.iloadN (pc' := 1) d1_0 rfl rfl ?_
  refine Wp.iloadN (pc' := 2) d1_1 rfl rfl ?_
  by_cases c2 : (Int32.ofNat q) < (Int32.ofNat t)
  · refine Wp.icmpY (pc' := 12) d1_2 c2 (by decide) (by decide) ?_
    have g2 : q < t := (own_lt (by omega) (by omega)).mp c2
    refine Wp.iload (pc' := 14) d1_12 rfl rfl ?_
    refine Wp.istore (L' := #[.val (.ref b), .val (.int (Int32.ofNat q)), .val (.int (Int32.ofNat t)), .val (.int (Int32.ofNat n)), .val (.int (Int32.ofNat u)), .val (.int f), .val (.int f), .unset, .unset]) (pc' := 16) d1_14 rfl rfl ?_
    refine Wp.goto (pc' := 62) d1_16 (by decide) (by decide) ?_
    exact tail _ _ _ (by rw [own_want, if_pos g2])
  · refine Wp.icmpN (pc' := 5) d1_2 c2 rfl ?_
    have g2 : ¬ q < t := fun g => c2 ((own_lt (by omega) (by omega)).mpr g)
    refine Wp.iloadN (pc' := 6) d1_5 rfl rfl ?_
    refine Wp.iloadN (pc' := 7) d1_6 rfl rfl ?_
    refine Wp.iloadN (pc' := 8) d1_7 rfl rfl ?_
    refine Wp.iadd (z := (Int32.ofNat (t + n))) (pc' := 9) d1_8 (own_add t n) rfl ?_
    by_cases c9 : (Int32.ofNat q) < (Int32.ofNat (t + n))
    · refine Wp.icmpY (pc' := 19) d1_9 c9 (by decide) (by decide) ?_
      have g9 : q < t + n := (own_lt (by omega) (by omega)).mp c9
      refine Wp.iloadN (pc' := 20) d1_19 rfl rfl ?_
      refine Wp.iloadN (pc' := 21) d1_20 rfl rfl ?_
      refine Wp.isub (z := (Int32.ofNat (q - t))) (pc' := 22) d1_21 (own_sub (by omega)) rfl ?_
      refine Wp.istore (L' := #[.val (.ref b), .val (.int (Int32.ofNat q)), .val (.int (Int32.ofNat t)), .val (.int (Int32.ofNat n)), .val (.int (Int32.ofNat u)), .val (.int f), .unset, .val (.int (Int32.ofNat (q - t))), .unset]) (pc' := 24) d1_22 rfl rfl ?_
      refine Wp.iload (pc' := 26) d1_24 rfl rfl ?_
      refine Wp.bipush (z := (7 : Int32)) (pc' := 28) d1_26 (by decide) rfl ?_
      refine Wp.iload (pc' := 30) d1_28 rfl rfl ?_
      refine Wp.imul (z := ((7 : Int32) * (Int32.ofNat (q - t)))) (pc' := 31) d1_30 rfl rfl ?_
      refine Wp.iushr (z := (Free.XT.ushr (Int32.ofNat u) ((7 : Int32) * (Int32.ofNat (q - t))))) (pc' := 32) d1_31 rfl rfl ?_
      refine Wp.bipush (z := (127 : Int32)) (pc' := 34) d1_32 (by decide) rfl ?_
      refine Wp.iand (z := ((Free.XT.ushr (Int32.ofNat u) ((7 : Int32) * (Int32.ofNat (q - t)))) &&& (127 : Int32))) (pc' := 35) d1_34 rfl rfl ?_
      refine Wp.istore (L' := #[.val (.ref b), .val (.int (Int32.ofNat q)), .val (.int (Int32.ofNat t)), .val (.int (Int32.ofNat n)), .val (.int (Int32.ofNat u)), .val (.int f), .unset, .val (.int (Int32.ofNat (q - t))), .val (.int ((Free.XT.ushr (Int32.ofNat u) ((7 : Int32) * (Int32.ofNat (q - t)))) &&& (127 : Int32)))]) (pc' := 37) d1_35 rfl rfl ?_
      refine Wp.iload (pc' := 39) d1_37 rfl rfl ?_
      refine Wp.iloadN (pc' := 40) d1_39 rfl rfl ?_
      refine Wp.iconst (z := (1 : Int32)) (pc' := 41) d1_40 (by decide) rfl ?_
      refine Wp.isub (z := (Int32.ofNat (n - 1))) (pc' := 42) d1_41 (own_sub (j := 1) (by omega)) rfl ?_
      by_cases c42 : (Int32.ofNat (q - t)) < (Int32.ofNat (n - 1))
      · refine Wp.icmpN (pc' := 45) d1_42 (not_not_intro c42) rfl ?_
        have g42 : q - t < n - 1 := (own_lt (by omega) (by omega)).mp c42
        refine Wp.iload (pc' := 47) d1_45 rfl rfl ?_
        refine Wp.sipush (z := (128 : Int32)) (pc' := 50) d1_47 (by decide) rfl ?_
        refine Wp.ior (z := (((Free.XT.ushr (Int32.ofNat u) ((7 : Int32) * (Int32.ofNat (q - t)))) &&& (127 : Int32)) ||| (128 : Int32))) (pc' := 51) d1_50 rfl rfl ?_
        refine Wp.i2b (z := (((((Free.XT.ushr (Int32.ofNat u) ((7 : Int32) * (Int32.ofNat (q - t)))) &&& (127 : Int32)) ||| (128 : Int32))).toInt8.toInt32)) (pc' := 52) d1_51 rfl rfl ?_
        refine Wp.istore (L' := #[.val (.ref b), .val (.int (Int32.ofNat q)), .val (.int (Int32.ofNat t)), .val (.int (Int32.ofNat n)), .val (.int (Int32.ofNat u)), .val (.int f), .val (.int (((((Free.XT.ushr (Int32.ofNat u) ((7 : Int32) * (Int32.ofNat (q - t)))) &&& (127 : Int32)) ||| (128 : Int32))).toInt8.toInt32)), .val (.int (Int32.ofNat (q - t))), .val (.int ((Free.XT.ushr (Int32.ofNat u) ((7 : Int32) * (Int32.ofNat (q - t)))) &&& (127 : Int32)))]) (pc' := 54) d1_52 rfl rfl ?_
        refine Wp.goto (pc' := 62) d1_54 (by decide) (by decide) ?_
        exact tail _ _ _ (by rw [own_want, if_neg g2, if_pos g9, if_pos g42])
      · refine Wp.icmpY (pc' := 57) d1_42 c42 (by decide) (by decide) ?_
        have g42 : ¬ q - t < n - 1 := fun g => c42 ((own_lt (by omega) (by omega)).mpr g)
        refine Wp.iload (pc' := 59) d1_57 rfl rfl ?_
        refine Wp.i2b (z := ((((Free.XT.ushr (Int32.ofNat u) ((7 : Int32) * (Int32.ofNat (q - t)))) &&& (127 : Int32))).toInt8.toInt32)) (pc' := 60) d1_59 rfl rfl ?_
        refine Wp.istore (L' := #[.val (.ref b), .val (.int (Int32.ofNat q)), .val (.int (Int32.ofNat t)), .val (.int (Int32.ofNat n)), .val (.int (Int32.ofNat u)), .val (.int f), .val (.int ((((Free.XT.ushr (Int32.ofNat u) ((7 : Int32) * (Int32.ofNat (q - t)))) &&& (127 : Int32))).toInt8.toInt32)), .val (.int (Int32.ofNat (q - t))), .val (.int ((Free.XT.ushr (Int32.ofNat u) ((7 : Int32) * (Int32.ofNat (q - t)))) &&& (127 : Int32)))]) (pc' := 62) d1_60 rfl rfl ?_
        exact tail _ _ _ (by rw [own_want, if_neg g2, if_pos g9, if_neg g42])
    · refine Wp.icmpN (pc' := 12) d1_9 c9 rfl ?_
      have g9 : ¬ q < t + n := fun g => c9 ((own_lt (by omega) (by omega)).mpr g)
      refine Wp.iload (pc' := 14) d1_12 rfl rfl ?_
      refine Wp.istore (L' := #[.val (.ref b), .val (.int (Int32.ofNat q)), .val (.int (Int32.ofNat t)), .val (.int (Int32.ofNat n)), .val (.int (Int32.ofNat u)), .val (.int f), .val (.int f), .unset, .unset]) (pc' := 16) d1_14 rfl rfl ?_
      refine Wp.goto (pc' := 62) d1_16 (by decide) (by decide) ?_
      exact tail _ _ _ (by rw [own_want, if_neg g2, if_neg g9])

set_option maxRecDepth 65536 in
set_option maxHeartbeats 40000000 in
theorem rm0 (l : Launch) (Z : State) (a0 : Array Value) (hw : ∀ d ∈ tables_1, d.before a0 Z = true) (p0 p1 p2 p3 : Int32) (h : Heap) (n0 : Nat) (Z0 : n0 ≤ h.size) :
    Met l Z x code maxLocals ret room_1 #[(.int p0), (.int p1), (.int p2), (.int p3)] h n0 (fun v _ => v = some (.int 1)) := by
  refine Met.of (L0 := #[.val (.int p0), .val (.int p1), .val (.int p2), .val (.int p3), .unset, .unset, .unset, .unset, .unset, .unset]) pn_l (fun m => rfl) ?_
  have O : Hp h n0 [] := Hp.nil Z0
  refine Wp.iloadN (pc' := 1) at_0 rfl rfl ?_
  refine Wp.ldcInt (v := (2147483647 : Int32)) (pc' := 3) (hw _ (List.mem_of_getElem? (i := 0) rfl)) at_1 rfl ?_
  refine Wp.iand (z := (p0 &&& (2147483647 : Int32))) (pc' := 4) at_3 rfl rfl ?_
  refine Wp.iloadN (pc' := 5) at_4 rfl rfl ?_
  refine Wp.bipush (z := (31 : Int32)) (pc' := 7) at_5 (by decide) rfl ?_
  refine Wp.iand (z := (p1 &&& (31 : Int32))) (pc' := 8) at_7 rfl rfl ?_
  obtain ⟨u, -, hu, eu⟩ := own_nat (b := 2147483647) (own_shrv (p0 &&& (2147483647 : Int32)) (p1 &&& (31 : Int32)) (c_and p0 2147483647 (by decide)).1).1 (own_shrv (p0 &&& (2147483647 : Int32)) (p1 &&& (31 : Int32)) (c_and p0 2147483647 (by decide)).1).2
  refine Wp.iushr (z := (Int32.ofNat u)) (pc' := 9) at_8 eu rfl ?_
  refine Wp.istore (L' := #[.val (.int p0), .val (.int p1), .val (.int p2), .val (.int p3), .val (.int (Int32.ofNat u)), .unset, .unset, .unset, .unset, .unset]) (pc' := 11) at_9 rfl rfl ?_
  refine Wp.iloadN (pc' := 12) at_11 rfl rfl ?_
  refine Wp.bipush (z := (7 : Int32)) (pc' := 14) at_12 (by decide) rfl ?_
  obtain ⟨t, ht, -, et⟩ := own_nat (b := 7) (own_seven p2).1 (own_seven p2).2
  refine Wp.iand (z := (Int32.ofNat t)) (pc' := 15) at_14 et rfl ?_
  refine Wp.istore (L' := #[.val (.int p0), .val (.int p1), .val (.int p2), .val (.int p3), .val (.int (Int32.ofNat u)), .val (.int (Int32.ofNat t)), .unset, .unset, .unset, .unset]) (pc' := 17) at_15 rfl rfl ?_
  refine Wp.iloadN (pc' := 18) at_17 rfl rfl ?_
  refine Wp.i2b (z := ((p3).toInt8.toInt32)) (pc' := 19) at_18 rfl rfl ?_
  obtain ⟨fb, e_fb⟩ : ∃ z, z = ((p3).toInt8.toInt32) := ⟨_, rfl⟩
  rw [← e_fb]
  have hfb : nar .byte fb = fb := by rw [e_fb]; exact own_narb _
  refine Wp.istore (L' := #[.val (.int p0), .val (.int p1), .val (.int p2), .val (.int p3), .val (.int (Int32.ofNat u)), .val (.int (Int32.ofNat t)), .val (.int fb), .unset, .unset, .unset]) (pc' := 21) at_19 rfl rfl ?_
  refine Wp.bipush (z := (12 : Int32)) (pc' := 23) at_21 (by decide) rfl ?_
  refine Wp.newarr (m := 12) (cap := 12) (pc' := 25) O (hw _ (List.mem_of_getElem? (i := 1) rfl)) at_23 (by decide) rfl (Nat.le_refl _) (by decide) (by decide) (by decide) rfl ?_
  intro h2 b k1 O2
  have O2 : Hp h2 n0 [(b, ArC Z k1 .byte [(.int (0 : Int32)), (.int (0 : Int32)), (.int (0 : Int32)), (.int (0 : Int32)), (.int (0 : Int32)), (.int (0 : Int32)), (.int (0 : Int32)), (.int (0 : Int32)), (.int (0 : Int32)), (.int (0 : Int32)), (.int (0 : Int32)), (.int (0 : Int32))])] := O2
  refine Wp.dup (pc' := 26) at_25 rfl rfl ?_
  refine Wp.iconst (z := (0 : Int32)) (pc' := 27) at_26 (by decide) rfl ?_
  refine Wp.iload (pc' := 29) at_27 rfl rfl ?_
  refine Wp.bastore (LA := []) (jn := 0) (pc' := 30) O2 at_29 (by decide) rfl (by first | decide | simp) rfl ?_
  intro h3 O3
  rw [hfb] at O3
  have O3 : Hp h3 n0 [(b, ArC Z k1 .byte [(.int fb), (.int (0 : Int32)), (.int (0 : Int32)), (.int (0 : Int32)), (.int (0 : Int32)), (.int (0 : Int32)), (.int (0 : Int32)), (.int (0 : Int32)), (.int (0 : Int32)), (.int (0 : Int32)), (.int (0 : Int32)), (.int (0 : Int32))])] := O3
  refine Wp.dup (pc' := 31) at_30 rfl rfl ?_
  refine Wp.iconst (z := (1 : Int32)) (pc' := 32) at_31 (by decide) rfl ?_
  refine Wp.iload (pc' := 34) at_32 rfl rfl ?_
  refine Wp.bastore (LA := []) (jn := 1) (pc' := 35) O3 at_34 (by decide) rfl (by first | decide | simp) rfl ?_
  intro h4 O4
  rw [hfb] at O4
  have O4 : Hp h4 n0 [(b, ArC Z k1 .byte [(.int fb), (.int fb), (.int (0 : Int32)), (.int (0 : Int32)), (.int (0 : Int32)), (.int (0 : Int32)), (.int (0 : Int32)), (.int (0 : Int32)), (.int (0 : Int32)), (.int (0 : Int32)), (.int (0 : Int32)), (.int (0 : Int32))])] := O4
  refine Wp.dup (pc' := 36) at_35 rfl rfl ?_
  refine Wp.iconst (z := (2 : Int32)) (pc' := 37) at_36 (by decide) rfl ?_
  refine Wp.iload (pc' := 39) at_37 rfl rfl ?_
  refine Wp.bastore (LA := []) (jn := 2) (pc' := 40) O4 at_39 (by decide) rfl (by first | decide | simp) rfl ?_
  intro h5 O5
  rw [hfb] at O5
  have O5 : Hp h5 n0 [(b, ArC Z k1 .byte [(.int fb), (.int fb), (.int fb), (.int (0 : Int32)), (.int (0 : Int32)), (.int (0 : Int32)), (.int (0 : Int32)), (.int (0 : Int32)), (.int (0 : Int32)), (.int (0 : Int32)), (.int (0 : Int32)), (.int (0 : Int32))])] := O5
  refine Wp.dup (pc' := 41) at_40 rfl rfl ?_
  refine Wp.iconst (z := (3 : Int32)) (pc' := 42) at_41 (by decide) rfl ?_
  refine Wp.iload (pc' := 44) at_42 rfl rfl ?_
  refine Wp.bastore (LA := []) (jn := 3) (pc' := 45) O5 at_44 (by decide) rfl (by first | decide | simp) rfl ?_
  intro h6 O6
  rw [hfb] at O6
  have O6 : Hp h6 n0 [(b, ArC Z k1 .byte [(.int fb), (.int fb), (.int fb), (.int fb), (.int (0 : Int32)), (.int (0 : Int32)), (.int (0 : Int32)), (.int (0 : Int32)), (.int (0 : Int32)), (.int (0 : Int32)), (.int (0 : Int32)), (.int (0 : Int32))])] := O6
  refine Wp.dup (pc' := 46) at_45 rfl rfl ?_
  refine Wp.iconst (z := (4 : Int32)) (pc' := 47) at_46 (by decide) rfl ?_
  refine Wp.iload (pc' := 49) at_47 rfl rfl ?_
  refine Wp.bastore (LA := []) (jn := 4) (pc' := 50) O6 at_49 (by decide) rfl (by first | decide | simp) rfl ?_
  intro h7 O7
  rw [hfb] at O7
  have O7 : Hp h7 n0 [(b, ArC Z k1 .byte [(.int fb), (.int fb), (.int fb), (.int fb), (.int fb), (.int (0 : Int32)), (.int (0 : Int32)), (.int (0 : Int32)), (.int (0 : Int32)), (.int (0 : Int32)), (.int (0 : Int32)), (.int (0 : Int32))])] := O7
  refine Wp.dup (pc' := 51) at_50 rfl rfl ?_
  refine Wp.iconst (z := (5 : Int32)) (pc' := 52) at_51 (by decide) rfl ?_
  refine Wp.iload (pc' := 54) at_52 rfl rfl ?_
  refine Wp.bastore (LA := []) (jn := 5) (pc' := 55) O7 at_54 (by decide) rfl (by first | decide | simp) rfl ?_
  intro h8 O8
  rw [hfb] at O8
  have O8 : Hp h8 n0 [(b, ArC Z k1 .byte [(.int fb), (.int fb), (.int fb), (.int fb), (.int fb), (.int fb), (.int (0 : Int32)), (.int (0 : Int32)), (.int (0 : Int32)), (.int (0 : Int32)), (.int (0 : Int32)), (.int (0 : Int32))])] := O8
  refine Wp.dup (pc' := 56) at_55 rfl rfl ?_
  refine Wp.bipush (z := (6 : Int32)) (pc' := 58) at_56 (by decide) rfl ?_
  refine Wp.iload (pc' := 60) at_58 rfl rfl ?_
  refine Wp.bastore (LA := []) (jn := 6) (pc' := 61) O8 at_60 (by decide) rfl (by first | decide | simp) rfl ?_
  intro h9 O9
  rw [hfb] at O9
  have O9 : Hp h9 n0 [(b, ArC Z k1 .byte [(.int fb), (.int fb), (.int fb), (.int fb), (.int fb), (.int fb), (.int fb), (.int (0 : Int32)), (.int (0 : Int32)), (.int (0 : Int32)), (.int (0 : Int32)), (.int (0 : Int32))])] := O9
  refine Wp.dup (pc' := 62) at_61 rfl rfl ?_
  refine Wp.bipush (z := (7 : Int32)) (pc' := 64) at_62 (by decide) rfl ?_
  refine Wp.iload (pc' := 66) at_64 rfl rfl ?_
  refine Wp.bastore (LA := []) (jn := 7) (pc' := 67) O9 at_66 (by decide) rfl (by first | decide | simp) rfl ?_
  intro h10 O10
  rw [hfb] at O10
  have O10 : Hp h10 n0 [(b, ArC Z k1 .byte [(.int fb), (.int fb), (.int fb), (.int fb), (.int fb), (.int fb), (.int fb), (.int fb), (.int (0 : Int32)), (.int (0 : Int32)), (.int (0 : Int32)), (.int (0 : Int32))])] := O10
  refine Wp.dup (pc' := 68) at_67 rfl rfl ?_
  refine Wp.bipush (z := (8 : Int32)) (pc' := 70) at_68 (by decide) rfl ?_
  refine Wp.iload (pc' := 72) at_70 rfl rfl ?_
  refine Wp.bastore (LA := []) (jn := 8) (pc' := 73) O10 at_72 (by decide) rfl (by first | decide | simp) rfl ?_
  intro h11 O11
  rw [hfb] at O11
  have O11 : Hp h11 n0 [(b, ArC Z k1 .byte [(.int fb), (.int fb), (.int fb), (.int fb), (.int fb), (.int fb), (.int fb), (.int fb), (.int fb), (.int (0 : Int32)), (.int (0 : Int32)), (.int (0 : Int32))])] := O11
  refine Wp.dup (pc' := 74) at_73 rfl rfl ?_
  refine Wp.bipush (z := (9 : Int32)) (pc' := 76) at_74 (by decide) rfl ?_
  refine Wp.iload (pc' := 78) at_76 rfl rfl ?_
  refine Wp.bastore (LA := []) (jn := 9) (pc' := 79) O11 at_78 (by decide) rfl (by first | decide | simp) rfl ?_
  intro h12 O12
  rw [hfb] at O12
  have O12 : Hp h12 n0 [(b, ArC Z k1 .byte [(.int fb), (.int fb), (.int fb), (.int fb), (.int fb), (.int fb), (.int fb), (.int fb), (.int fb), (.int fb), (.int (0 : Int32)), (.int (0 : Int32))])] := O12
  refine Wp.dup (pc' := 80) at_79 rfl rfl ?_
  refine Wp.bipush (z := (10 : Int32)) (pc' := 82) at_80 (by decide) rfl ?_
  refine Wp.iload (pc' := 84) at_82 rfl rfl ?_
  refine Wp.bastore (LA := []) (jn := 10) (pc' := 85) O12 at_84 (by decide) rfl (by first | decide | simp) rfl ?_
  intro h13 O13
  rw [hfb] at O13
  have O13 : Hp h13 n0 [(b, ArC Z k1 .byte [(.int fb), (.int fb), (.int fb), (.int fb), (.int fb), (.int fb), (.int fb), (.int fb), (.int fb), (.int fb), (.int fb), (.int (0 : Int32))])] := O13
  refine Wp.dup (pc' := 86) at_85 rfl rfl ?_
  refine Wp.bipush (z := (11 : Int32)) (pc' := 88) at_86 (by decide) rfl ?_
  refine Wp.iload (pc' := 90) at_88 rfl rfl ?_
  refine Wp.bastore (LA := []) (jn := 11) (pc' := 91) O13 at_90 (by decide) rfl (by first | decide | simp) rfl ?_
  intro h14 O14
  rw [hfb] at O14
  have O14 : Hp h14 n0 [(b, ArC Z k1 .byte [(.int fb), (.int fb), (.int fb), (.int fb), (.int fb), (.int fb), (.int fb), (.int fb), (.int fb), (.int fb), (.int fb), (.int fb)])] := O14
  refine Wp.astore (L' := #[.val (.int p0), .val (.int p1), .val (.int p2), .val (.int p3), .val (.int (Int32.ofNat u)), .val (.int (Int32.ofNat t)), .val (.int fb), .val (.ref b), .unset, .unset]) (pc' := 93) at_91 rfl rfl rfl ?_
  refine Wp.iload (pc' := 95) at_93 rfl rfl ?_
  refine Wp.sipush (z := (128 : Int32)) (pc' := 98) at_95 (by decide) rfl ?_
  have Ob : Hp h14 n0 [(b, ArC Z k1 .byte (List.replicate 12 (.int fb)))] := O14
  have tail : ∀ kk : Nat, kk ≤ 4 → own_K kk u → Wp l Z room_1 x code maxLocals ret n0 (fun v _ => v = some (.int 1)) h14 1 12 150 #[.val (.int p0), .val (.int p1), .val (.int p2), .val (.int p3), .val (.int (Int32.ofNat u)), .val (.int (Int32.ofNat t)), .val (.int fb), .val (.ref b), .val (.int (Int32.ofNat (kk + 1))), .unset] [] := by
    intro kk hk hK
    refine Wp.iload (pc' := 152) at_150 rfl rfl ?_
    refine Wp.aload (pc' := 154) at_152 rfl rfl rfl ?_
    refine Wp.iload (pc' := 156) at_154 rfl rfl ?_
    refine Wp.callS (yy := (⟨"com/example/frugal_retrieval/frugalretrieval/index/VarInt", "encode", "(I[BI)I"⟩ : MethodName)) (pc' := 159) (argsL := [(.int (Int32.ofNat u)), (.ref b), (.int (Int32.ofNat t))]) (S := []) (rm_e l Z a0 hw b k1 (List.replicate 12 (.int fb)) kk t u hK hu (by rw [List.length_replicate]; omega) (by rw [List.length_replicate]; omega) h14 n0 Ob) (hw _ (List.mem_of_getElem? (i := 2) rfl)) (hw _ (List.mem_of_getElem? (i := 3) rfl)) (hw _ (List.mem_of_getElem? (i := 4) rfl)) (hw _ (List.mem_of_getElem? (i := 5) rfl)) (by decide) (W := 0) rfl (lenOf pd_0 rfl) rfl rfl (Nat.le_refl 0) (by decide) (by decide) (by decide) (by decide) at_156 rfl ?_
    rintro _ h15 ⟨rfl, O15⟩
    have O15 : Hp h15 n0 [(b, ArC Z k1 .byte (own_enc kk (List.replicate 12 (.int fb)) t u))] := O15
    show Wp _ _ _ _ _ _ _ _ _ _ _ _ 159 #[.val (.int p0), .val (.int p1), .val (.int p2), .val (.int p3), .val (.int (Int32.ofNat u)), .val (.int (Int32.ofNat t)), .val (.int fb), .val (.ref b), .val (.int (Int32.ofNat (kk + 1))), .unset] [(.int (Int32.ofNat (t + kk + 1)))]
    refine Wp.istore (L' := #[.val (.int p0), .val (.int p1), .val (.int p2), .val (.int p3), .val (.int (Int32.ofNat u)), .val (.int (Int32.ofNat t)), .val (.int fb), .val (.ref b), .val (.int (Int32.ofNat (kk + 1))), .val (.int (Int32.ofNat (t + kk + 1)))]) (pc' := 161) at_159 rfl rfl ?_
    refine Wp.iload (pc' := 163) at_161 rfl rfl ?_
    refine Wp.iload (pc' := 165) at_163 rfl rfl ?_
    refine Wp.iload (pc' := 167) at_165 rfl rfl ?_
    refine Wp.iadd (z := (Int32.ofNat (t + (kk + 1)))) (pc' := 168) at_167 (own_add t (kk + 1)) rfl ?_
    refine Wp.icmpY (pc' := 173) at_168 rfl (by decide) (by decide) ?_
    refine Wp.aload (pc' := 175) at_173 rfl rfl rfl ?_
    refine Wp.iconst (z := (0 : Int32)) (pc' := 176) at_175 (by decide) rfl ?_
    refine Wp.iload (pc' := 178) at_176 rfl rfl ?_
    refine Wp.iload (pc' := 180) at_178 rfl rfl ?_
    refine Wp.iload (pc' := 182) at_180 rfl rfl ?_
    refine Wp.iload (pc' := 184) at_182 rfl rfl ?_
    refine Wp.callS (yy := (⟨"com/example/frugal_retrieval/frugalretrieval/index/VarIntEncodePinLaw", "ok", "([BIIIIB)Z"⟩ : MethodName)) (pc' := 187) (argsL := [(.ref b), (.int (0 : Int32)), (.int (Int32.ofNat t)), (.int (Int32.ofNat (kk + 1))), (.int (Int32.ofNat u)), (.int fb)]) (S := []) (rm_o l Z a0 hw b k1 (own_enc kk (List.replicate 12 (.int fb)) t u) 0 t (kk + 1) u fb (by omega) ht (by omega) (by omega) hu (own_all hk hK hu ht (by omega)) h15 n0 O15) (hw _ (List.mem_of_getElem? (i := 6) rfl)) (hw _ (List.mem_of_getElem? (i := 7) rfl)) (hw _ (List.mem_of_getElem? (i := 8) rfl)) (hw _ (List.mem_of_getElem? (i := 9) rfl)) (by decide) (W := 0) rfl (lenOf pd_1 rfl) rfl rfl (Nat.le_refl 0) (by decide) (by decide) (by decide) (by decide) at_184 rfl ?_
    rintro _ _ ⟨rfl, rfl⟩
    show Wp _ _ _ _ _ _ _ _ _ _ _ _ 187 #[.val (.int p0), .val (.int p1), .val (.int p2), .val (.int p3), .val (.int (Int32.ofNat u)), .val (.int (Int32.ofNat t)), .val (.int fb), .val (.ref b), .val (.int (Int32.ofNat (kk + 1))), .val (.int (Int32.ofNat (t + kk + 1)))] [(.int (1 : Int32))]
    refine Wp.ifN (pc' := 190) at_187 (by decide) rfl ?_
    refine Wp.aload (pc' := 192) at_190 rfl rfl rfl ?_
    refine Wp.iconst (z := (1 : Int32)) (pc' := 193) at_192 (by decide) rfl ?_
    refine Wp.iload (pc' := 195) at_193 rfl rfl ?_
    refine Wp.iload (pc' := 197) at_195 rfl rfl ?_
    refine Wp.iload (pc' := 199) at_197 rfl rfl ?_
    refine Wp.iload (pc' := 201) at_199 rfl rfl ?_
    refine Wp.callS (yy := (⟨"com/example/frugal_retrieval/frugalretrieval/index/VarIntEncodePinLaw", "ok", "([BIIIIB)Z"⟩ : MethodName)) (pc' := 204) (argsL := [(.ref b), (.int (1 : Int32)), (.int (Int32.ofNat t)), (.int (Int32.ofNat (kk + 1))), (.int (Int32.ofNat u)), (.int fb)]) (S := []) (rm_o l Z a0 hw b k1 (own_enc kk (List.replicate 12 (.int fb)) t u) 1 t (kk + 1) u fb (by omega) ht (by omega) (by omega) hu (own_all hk hK hu ht (by omega)) h15 n0 O15) (hw _ (List.mem_of_getElem? (i := 6) rfl)) (hw _ (List.mem_of_getElem? (i := 7) rfl)) (hw _ (List.mem_of_getElem? (i := 8) rfl)) (hw _ (List.mem_of_getElem? (i := 9) rfl)) (by decide) (W := 0) rfl (lenOf pd_1 rfl) rfl rfl (Nat.le_refl 0) (by decide) (by decide) (by decide) (by decide) at_201 rfl ?_
    rintro _ _ ⟨rfl, rfl⟩
    show Wp _ _ _ _ _ _ _ _ _ _ _ _ 204 #[.val (.int p0), .val (.int p1), .val (.int p2), .val (.int p3), .val (.int (Int32.ofNat u)), .val (.int (Int32.ofNat t)), .val (.int fb), .val (.ref b), .val (.int (Int32.ofNat (kk + 1))), .val (.int (Int32.ofNat (t + kk + 1)))] [(.int (1 : Int32))]
    refine Wp.ifN (pc' := 207) at_204 (by decide) rfl ?_
    refine Wp.aload (pc' := 209) at_207 rfl rfl rfl ?_
    refine Wp.iconst (z := (2 : Int32)) (pc' := 210) at_209 (by decide) rfl ?_
    refine Wp.iload (pc' := 212) at_210 rfl rfl ?_
    refine Wp.iload (pc' := 214) at_212 rfl rfl ?_
    refine Wp.iload (pc' := 216) at_214 rfl rfl ?_
    refine Wp.iload (pc' := 218) at_216 rfl rfl ?_
    refine Wp.callS (yy := (⟨"com/example/frugal_retrieval/frugalretrieval/index/VarIntEncodePinLaw", "ok", "([BIIIIB)Z"⟩ : MethodName)) (pc' := 221) (argsL := [(.ref b), (.int (2 : Int32)), (.int (Int32.ofNat t)), (.int (Int32.ofNat (kk + 1))), (.int (Int32.ofNat u)), (.int fb)]) (S := []) (rm_o l Z a0 hw b k1 (own_enc kk (List.replicate 12 (.int fb)) t u) 2 t (kk + 1) u fb (by omega) ht (by omega) (by omega) hu (own_all hk hK hu ht (by omega)) h15 n0 O15) (hw _ (List.mem_of_getElem? (i := 6) rfl)) (hw _ (List.mem_of_getElem? (i := 7) rfl)) (hw _ (List.mem_of_getElem? (i := 8) rfl)) (hw _ (List.mem_of_getElem? (i := 9) rfl)) (by decide) (W := 0) rfl (lenOf pd_1 rfl) rfl rfl (Nat.le_refl 0) (by decide) (by decide) (by decide) (by decide) at_218 rfl ?_
    rintro _ _ ⟨rfl, rfl⟩
    show Wp _ _ _ _ _ _ _ _ _ _ _ _ 221 #[.val (.int p0), .val (.int p1), .val (.int p2), .val (.int p3), .val (.int (Int32.ofNat u)), .val (.int (Int32.ofNat t)), .val (.int fb), .val (.ref b), .val (.int (Int32.ofNat (kk + 1))), .val (.int (Int32.ofNat (t + kk + 1)))] [(.int (1 : Int32))]
    refine Wp.ifN (pc' := 224) at_221 (by decide) rfl ?_
    refine Wp.aload (pc' := 226) at_224 rfl rfl rfl ?_
    refine Wp.iconst (z := (3 : Int32)) (pc' := 227) at_226 (by decide) rfl ?_
    refine Wp.iload (pc' := 229) at_227 rfl rfl ?_
    refine Wp.iload (pc' := 231) at_229 rfl rfl ?_
    refine Wp.iload (pc' := 233) at_231 rfl rfl ?_
    refine Wp.iload (pc' := 235) at_233 rfl rfl ?_
    refine Wp.callS (yy := (⟨"com/example/frugal_retrieval/frugalretrieval/index/VarIntEncodePinLaw", "ok", "([BIIIIB)Z"⟩ : MethodName)) (pc' := 238) (argsL := [(.ref b), (.int (3 : Int32)), (.int (Int32.ofNat t)), (.int (Int32.ofNat (kk + 1))), (.int (Int32.ofNat u)), (.int fb)]) (S := []) (rm_o l Z a0 hw b k1 (own_enc kk (List.replicate 12 (.int fb)) t u) 3 t (kk + 1) u fb (by omega) ht (by omega) (by omega) hu (own_all hk hK hu ht (by omega)) h15 n0 O15) (hw _ (List.mem_of_getElem? (i := 6) rfl)) (hw _ (List.mem_of_getElem? (i := 7) rfl)) (hw _ (List.mem_of_getElem? (i := 8) rfl)) (hw _ (List.mem_of_getElem? (i := 9) rfl)) (by decide) (W := 0) rfl (lenOf pd_1 rfl) rfl rfl (Nat.le_refl 0) (by decide) (by decide) (by decide) (by decide) at_235 rfl ?_
    rintro _ _ ⟨rfl, rfl⟩
    show Wp _ _ _ _ _ _ _ _ _ _ _ _ 238 #[.val (.int p0), .val (.int p1), .val (.int p2), .val (.int p3), .val (.int (Int32.ofNat u)), .val (.int (Int32.ofNat t)), .val (.int fb), .val (.ref b), .val (.int (Int32.ofNat (kk + 1))), .val (.int (Int32.ofNat (t + kk + 1)))] [(.int (1 : Int32))]
    refine Wp.ifN (pc' := 241) at_238 (by decide) rfl ?_
    refine Wp.aload (pc' := 243) at_241 rfl rfl rfl ?_
    refine Wp.iconst (z := (4 : Int32)) (pc' := 244) at_243 (by decide) rfl ?_
    refine Wp.iload (pc' := 246) at_244 rfl rfl ?_
    refine Wp.iload (pc' := 248) at_246 rfl rfl ?_
    refine Wp.iload (pc' := 250) at_248 rfl rfl ?_
    refine Wp.iload (pc' := 252) at_250 rfl rfl ?_
    refine Wp.callS (yy := (⟨"com/example/frugal_retrieval/frugalretrieval/index/VarIntEncodePinLaw", "ok", "([BIIIIB)Z"⟩ : MethodName)) (pc' := 255) (argsL := [(.ref b), (.int (4 : Int32)), (.int (Int32.ofNat t)), (.int (Int32.ofNat (kk + 1))), (.int (Int32.ofNat u)), (.int fb)]) (S := []) (rm_o l Z a0 hw b k1 (own_enc kk (List.replicate 12 (.int fb)) t u) 4 t (kk + 1) u fb (by omega) ht (by omega) (by omega) hu (own_all hk hK hu ht (by omega)) h15 n0 O15) (hw _ (List.mem_of_getElem? (i := 6) rfl)) (hw _ (List.mem_of_getElem? (i := 7) rfl)) (hw _ (List.mem_of_getElem? (i := 8) rfl)) (hw _ (List.mem_of_getElem? (i := 9) rfl)) (by decide) (W := 0) rfl (lenOf pd_1 rfl) rfl rfl (Nat.le_refl 0) (by decide) (by decide) (by decide) (by decide) at_252 rfl ?_
    rintro _ _ ⟨rfl, rfl⟩
    show Wp _ _ _ _ _ _ _ _ _ _ _ _ 255 #[.val (.int p0), .val (.int p1), .val (.int p2), .val (.int p3), .val (.int (Int32.ofNat u)), .val (.int (Int32.ofNat t)), .val (.int fb), .val (.ref b), .val (.int (Int32.ofNat (kk + 1))), .val (.int (Int32.ofNat (t + kk + 1)))] [(.int (1 : Int32))]
    refine Wp.ifN (pc' := 258) at_255 (by decide) rfl ?_
    refine Wp.aload (pc' := 260) at_258 rfl rfl rfl ?_
    refine Wp.iconst (z := (5 : Int32)) (pc' := 261) at_260 (by decide) rfl ?_
    refine Wp.iload (pc' := 263) at_261 rfl rfl ?_
    refine Wp.iload (pc' := 265) at_263 rfl rfl ?_
    refine Wp.iload (pc' := 267) at_265 rfl rfl ?_
    refine Wp.iload (pc' := 269) at_267 rfl rfl ?_
    refine Wp.callS (yy := (⟨"com/example/frugal_retrieval/frugalretrieval/index/VarIntEncodePinLaw", "ok", "([BIIIIB)Z"⟩ : MethodName)) (pc' := 272) (argsL := [(.ref b), (.int (5 : Int32)), (.int (Int32.ofNat t)), (.int (Int32.ofNat (kk + 1))), (.int (Int32.ofNat u)), (.int fb)]) (S := []) (rm_o l Z a0 hw b k1 (own_enc kk (List.replicate 12 (.int fb)) t u) 5 t (kk + 1) u fb (by omega) ht (by omega) (by omega) hu (own_all hk hK hu ht (by omega)) h15 n0 O15) (hw _ (List.mem_of_getElem? (i := 6) rfl)) (hw _ (List.mem_of_getElem? (i := 7) rfl)) (hw _ (List.mem_of_getElem? (i := 8) rfl)) (hw _ (List.mem_of_getElem? (i := 9) rfl)) (by decide) (W := 0) rfl (lenOf pd_1 rfl) rfl rfl (Nat.le_refl 0) (by decide) (by decide) (by decide) (by decide) at_269 rfl ?_
    rintro _ _ ⟨rfl, rfl⟩
    show Wp _ _ _ _ _ _ _ _ _ _ _ _ 272 #[.val (.int p0), .val (.int p1), .val (.int p2), .val (.int p3), .val (.int (Int32.ofNat u)), .val (.int (Int32.ofNat t)), .val (.int fb), .val (.ref b), .val (.int (Int32.ofNat (kk + 1))), .val (.int (Int32.ofNat (t + kk + 1)))] [(.int (1 : Int32))]
    refine Wp.ifN (pc' := 275) at_272 (by decide) rfl ?_
    refine Wp.aload (pc' := 277) at_275 rfl rfl rfl ?_
    refine Wp.bipush (z := (6 : Int32)) (pc' := 279) at_277 (by decide) rfl ?_
    refine Wp.iload (pc' := 281) at_279 rfl rfl ?_
    refine Wp.iload (pc' := 283) at_281 rfl rfl ?_
    refine Wp.iload (pc' := 285) at_283 rfl rfl ?_
    refine Wp.iload (pc' := 287) at_285 rfl rfl ?_
    refine Wp.callS (yy := (⟨"com/example/frugal_retrieval/frugalretrieval/index/VarIntEncodePinLaw", "ok", "([BIIIIB)Z"⟩ : MethodName)) (pc' := 290) (argsL := [(.ref b), (.int (6 : Int32)), (.int (Int32.ofNat t)), (.int (Int32.ofNat (kk + 1))), (.int (Int32.ofNat u)), (.int fb)]) (S := []) (rm_o l Z a0 hw b k1 (own_enc kk (List.replicate 12 (.int fb)) t u) 6 t (kk + 1) u fb (by omega) ht (by omega) (by omega) hu (own_all hk hK hu ht (by omega)) h15 n0 O15) (hw _ (List.mem_of_getElem? (i := 6) rfl)) (hw _ (List.mem_of_getElem? (i := 7) rfl)) (hw _ (List.mem_of_getElem? (i := 8) rfl)) (hw _ (List.mem_of_getElem? (i := 9) rfl)) (by decide) (W := 0) rfl (lenOf pd_1 rfl) rfl rfl (Nat.le_refl 0) (by decide) (by decide) (by decide) (by decide) at_287 rfl ?_
    rintro _ _ ⟨rfl, rfl⟩
    show Wp _ _ _ _ _ _ _ _ _ _ _ _ 290 #[.val (.int p0), .val (.int p1), .val (.int p2), .val (.int p3), .val (.int (Int32.ofNat u)), .val (.int (Int32.ofNat t)), .val (.int fb), .val (.ref b), .val (.int (Int32.ofNat (kk + 1))), .val (.int (Int32.ofNat (t + kk + 1)))] [(.int (1 : Int32))]
    refine Wp.ifN (pc' := 293) at_290 (by decide) rfl ?_
    refine Wp.aload (pc' := 295) at_293 rfl rfl rfl ?_
    refine Wp.bipush (z := (7 : Int32)) (pc' := 297) at_295 (by decide) rfl ?_
    refine Wp.iload (pc' := 299) at_297 rfl rfl ?_
    refine Wp.iload (pc' := 301) at_299 rfl rfl ?_
    refine Wp.iload (pc' := 303) at_301 rfl rfl ?_
    refine Wp.iload (pc' := 305) at_303 rfl rfl ?_
    refine Wp.callS (yy := (⟨"com/example/frugal_retrieval/frugalretrieval/index/VarIntEncodePinLaw", "ok", "([BIIIIB)Z"⟩ : MethodName)) (pc' := 308) (argsL := [(.ref b), (.int (7 : Int32)), (.int (Int32.ofNat t)), (.int (Int32.ofNat (kk + 1))), (.int (Int32.ofNat u)), (.int fb)]) (S := []) (rm_o l Z a0 hw b k1 (own_enc kk (List.replicate 12 (.int fb)) t u) 7 t (kk + 1) u fb (by omega) ht (by omega) (by omega) hu (own_all hk hK hu ht (by omega)) h15 n0 O15) (hw _ (List.mem_of_getElem? (i := 6) rfl)) (hw _ (List.mem_of_getElem? (i := 7) rfl)) (hw _ (List.mem_of_getElem? (i := 8) rfl)) (hw _ (List.mem_of_getElem? (i := 9) rfl)) (by decide) (W := 0) rfl (lenOf pd_1 rfl) rfl rfl (Nat.le_refl 0) (by decide) (by decide) (by decide) (by decide) at_305 rfl ?_
    rintro _ _ ⟨rfl, rfl⟩
    show Wp _ _ _ _ _ _ _ _ _ _ _ _ 308 #[.val (.int p0), .val (.int p1), .val (.int p2), .val (.int p3), .val (.int (Int32.ofNat u)), .val (.int (Int32.ofNat t)), .val (.int fb), .val (.ref b), .val (.int (Int32.ofNat (kk + 1))), .val (.int (Int32.ofNat (t + kk + 1)))] [(.int (1 : Int32))]
    refine Wp.ifN (pc' := 311) at_308 (by decide) rfl ?_
    refine Wp.aload (pc' := 313) at_311 rfl rfl rfl ?_
    refine Wp.bipush (z := (8 : Int32)) (pc' := 315) at_313 (by decide) rfl ?_
    refine Wp.iload (pc' := 317) at_315 rfl rfl ?_
    refine Wp.iload (pc' := 319) at_317 rfl rfl ?_
    refine Wp.iload (pc' := 321) at_319 rfl rfl ?_
    refine Wp.iload (pc' := 323) at_321 rfl rfl ?_
    refine Wp.callS (yy := (⟨"com/example/frugal_retrieval/frugalretrieval/index/VarIntEncodePinLaw", "ok", "([BIIIIB)Z"⟩ : MethodName)) (pc' := 326) (argsL := [(.ref b), (.int (8 : Int32)), (.int (Int32.ofNat t)), (.int (Int32.ofNat (kk + 1))), (.int (Int32.ofNat u)), (.int fb)]) (S := []) (rm_o l Z a0 hw b k1 (own_enc kk (List.replicate 12 (.int fb)) t u) 8 t (kk + 1) u fb (by omega) ht (by omega) (by omega) hu (own_all hk hK hu ht (by omega)) h15 n0 O15) (hw _ (List.mem_of_getElem? (i := 6) rfl)) (hw _ (List.mem_of_getElem? (i := 7) rfl)) (hw _ (List.mem_of_getElem? (i := 8) rfl)) (hw _ (List.mem_of_getElem? (i := 9) rfl)) (by decide) (W := 0) rfl (lenOf pd_1 rfl) rfl rfl (Nat.le_refl 0) (by decide) (by decide) (by decide) (by decide) at_323 rfl ?_
    rintro _ _ ⟨rfl, rfl⟩
    show Wp _ _ _ _ _ _ _ _ _ _ _ _ 326 #[.val (.int p0), .val (.int p1), .val (.int p2), .val (.int p3), .val (.int (Int32.ofNat u)), .val (.int (Int32.ofNat t)), .val (.int fb), .val (.ref b), .val (.int (Int32.ofNat (kk + 1))), .val (.int (Int32.ofNat (t + kk + 1)))] [(.int (1 : Int32))]
    refine Wp.ifN (pc' := 329) at_326 (by decide) rfl ?_
    refine Wp.aload (pc' := 331) at_329 rfl rfl rfl ?_
    refine Wp.bipush (z := (9 : Int32)) (pc' := 333) at_331 (by decide) rfl ?_
    refine Wp.iload (pc' := 335) at_333 rfl rfl ?_
    refine Wp.iload (pc' := 337) at_335 rfl rfl ?_
    refine Wp.iload (pc' := 339) at_337 rfl rfl ?_
    refine Wp.iload (pc' := 341) at_339 rfl rfl ?_
    refine Wp.callS (yy := (⟨"com/example/frugal_retrieval/frugalretrieval/index/VarIntEncodePinLaw", "ok", "([BIIIIB)Z"⟩ : MethodName)) (pc' := 344) (argsL := [(.ref b), (.int (9 : Int32)), (.int (Int32.ofNat t)), (.int (Int32.ofNat (kk + 1))), (.int (Int32.ofNat u)), (.int fb)]) (S := []) (rm_o l Z a0 hw b k1 (own_enc kk (List.replicate 12 (.int fb)) t u) 9 t (kk + 1) u fb (by omega) ht (by omega) (by omega) hu (own_all hk hK hu ht (by omega)) h15 n0 O15) (hw _ (List.mem_of_getElem? (i := 6) rfl)) (hw _ (List.mem_of_getElem? (i := 7) rfl)) (hw _ (List.mem_of_getElem? (i := 8) rfl)) (hw _ (List.mem_of_getElem? (i := 9) rfl)) (by decide) (W := 0) rfl (lenOf pd_1 rfl) rfl rfl (Nat.le_refl 0) (by decide) (by decide) (by decide) (by decide) at_341 rfl ?_
    rintro _ _ ⟨rfl, rfl⟩
    show Wp _ _ _ _ _ _ _ _ _ _ _ _ 344 #[.val (.int p0), .val (.int p1), .val (.int p2), .val (.int p3), .val (.int (Int32.ofNat u)), .val (.int (Int32.ofNat t)), .val (.int fb), .val (.ref b), .val (.int (Int32.ofNat (kk + 1))), .val (.int (Int32.ofNat (t + kk + 1)))] [(.int (1 : Int32))]
    refine Wp.ifN (pc' := 347) at_344 (by decide) rfl ?_
    refine Wp.aload (pc' := 349) at_347 rfl rfl rfl ?_
    refine Wp.bipush (z := (10 : Int32)) (pc' := 351) at_349 (by decide) rfl ?_
    refine Wp.iload (pc' := 353) at_351 rfl rfl ?_
    refine Wp.iload (pc' := 355) at_353 rfl rfl ?_
    refine Wp.iload (pc' := 357) at_355 rfl rfl ?_
    refine Wp.iload (pc' := 359) at_357 rfl rfl ?_
    refine Wp.callS (yy := (⟨"com/example/frugal_retrieval/frugalretrieval/index/VarIntEncodePinLaw", "ok", "([BIIIIB)Z"⟩ : MethodName)) (pc' := 362) (argsL := [(.ref b), (.int (10 : Int32)), (.int (Int32.ofNat t)), (.int (Int32.ofNat (kk + 1))), (.int (Int32.ofNat u)), (.int fb)]) (S := []) (rm_o l Z a0 hw b k1 (own_enc kk (List.replicate 12 (.int fb)) t u) 10 t (kk + 1) u fb (by omega) ht (by omega) (by omega) hu (own_all hk hK hu ht (by omega)) h15 n0 O15) (hw _ (List.mem_of_getElem? (i := 6) rfl)) (hw _ (List.mem_of_getElem? (i := 7) rfl)) (hw _ (List.mem_of_getElem? (i := 8) rfl)) (hw _ (List.mem_of_getElem? (i := 9) rfl)) (by decide) (W := 0) rfl (lenOf pd_1 rfl) rfl rfl (Nat.le_refl 0) (by decide) (by decide) (by decide) (by decide) at_359 rfl ?_
    rintro _ _ ⟨rfl, rfl⟩
    show Wp _ _ _ _ _ _ _ _ _ _ _ _ 362 #[.val (.int p0), .val (.int p1), .val (.int p2), .val (.int p3), .val (.int (Int32.ofNat u)), .val (.int (Int32.ofNat t)), .val (.int fb), .val (.ref b), .val (.int (Int32.ofNat (kk + 1))), .val (.int (Int32.ofNat (t + kk + 1)))] [(.int (1 : Int32))]
    refine Wp.ifN (pc' := 365) at_362 (by decide) rfl ?_
    refine Wp.aload (pc' := 367) at_365 rfl rfl rfl ?_
    refine Wp.bipush (z := (11 : Int32)) (pc' := 369) at_367 (by decide) rfl ?_
    refine Wp.iload (pc' := 371) at_369 rfl rfl ?_
    refine Wp.iload (pc' := 373) at_371 rfl rfl ?_
    refine Wp.iload (pc' := 375) at_373 rfl rfl ?_
    refine Wp.iload (pc' := 377) at_375 rfl rfl ?_
    refine Wp.callS (yy := (⟨"com/example/frugal_retrieval/frugalretrieval/index/VarIntEncodePinLaw", "ok", "([BIIIIB)Z"⟩ : MethodName)) (pc' := 380) (argsL := [(.ref b), (.int (11 : Int32)), (.int (Int32.ofNat t)), (.int (Int32.ofNat (kk + 1))), (.int (Int32.ofNat u)), (.int fb)]) (S := []) (rm_o l Z a0 hw b k1 (own_enc kk (List.replicate 12 (.int fb)) t u) 11 t (kk + 1) u fb (by omega) ht (by omega) (by omega) hu (own_all hk hK hu ht (by omega)) h15 n0 O15) (hw _ (List.mem_of_getElem? (i := 6) rfl)) (hw _ (List.mem_of_getElem? (i := 7) rfl)) (hw _ (List.mem_of_getElem? (i := 8) rfl)) (hw _ (List.mem_of_getElem? (i := 9) rfl)) (by decide) (W := 0) rfl (lenOf pd_1 rfl) rfl rfl (Nat.le_refl 0) (by decide) (by decide) (by decide) (by decide) at_377 rfl ?_
    rintro _ _ ⟨rfl, rfl⟩
    show Wp _ _ _ _ _ _ _ _ _ _ _ _ 380 #[.val (.int p0), .val (.int p1), .val (.int p2), .val (.int p3), .val (.int (Int32.ofNat u)), .val (.int (Int32.ofNat t)), .val (.int fb), .val (.ref b), .val (.int (Int32.ofNat (kk + 1))), .val (.int (Int32.ofNat (t + kk + 1)))] [(.int (1 : Int32))]
    refine Wp.ifN (pc' := 383) at_380 (by decide) rfl ?_
    refine Wp.iconst (z := (1 : Int32)) (pc' := 384) at_383 (by decide) rfl ?_
    refine Wp.goto (pc' := 388) at_384 (by decide) (by decide) ?_
    exact Wp.retS (t := .boolean) rfl (Or.inl rfl) rfl at_388 (by decide) (by decide) rfl
  by_cases c98 : (Int32.ofNat u) < (128 : Int32)
  · refine Wp.icmpN (pc' := 101) at_98 (not_not_intro c98) rfl ?_
    have g0 : u < 128 := (own_lt (n := 128) (by omega) (by omega)).mp c98
    refine Wp.iconst (z := (1 : Int32)) (pc' := 102) at_101 (by decide) rfl ?_
    refine Wp.istore (L' := #[.val (.int p0), .val (.int p1), .val (.int p2), .val (.int p3), .val (.int (Int32.ofNat u)), .val (.int (Int32.ofNat t)), .val (.int fb), .val (.ref b), .val (.int (1 : Int32)), .unset]) (pc' := 104) at_102 rfl rfl ?_
    refine Wp.goto (pc' := 150) at_104 (by decide) (by decide) ?_
    exact tail 0 (by omega) (own_K0 (by omega))
  · refine Wp.icmpY (pc' := 107) at_98 c98 (by decide) (by decide) ?_
    have g0 : ¬ u < 128 := fun g => c98 ((own_lt (n := 128) (by omega) (by omega)).mpr g)
    refine Wp.iload (pc' := 109) at_107 rfl rfl ?_
    refine Wp.sipush (z := (16384 : Int32)) (pc' := 112) at_109 (by decide) rfl ?_
    by_cases c112 : (Int32.ofNat u) < (16384 : Int32)
    · refine Wp.icmpN (pc' := 115) at_112 (not_not_intro c112) rfl ?_
      have g1 : u < 16384 := (own_lt (n := 16384) (by omega) (by omega)).mp c112
      refine Wp.iconst (z := (2 : Int32)) (pc' := 116) at_115 (by decide) rfl ?_
      refine Wp.istore (L' := #[.val (.int p0), .val (.int p1), .val (.int p2), .val (.int p3), .val (.int (Int32.ofNat u)), .val (.int (Int32.ofNat t)), .val (.int fb), .val (.ref b), .val (.int (2 : Int32)), .unset]) (pc' := 118) at_116 rfl rfl ?_
      refine Wp.goto (pc' := 150) at_118 (by decide) (by decide) ?_
      exact tail 1 (by omega) (own_K1 (by omega) (by omega))
    · refine Wp.icmpY (pc' := 121) at_112 c112 (by decide) (by decide) ?_
      have g1 : ¬ u < 16384 := fun g => c112 ((own_lt (n := 16384) (by omega) (by omega)).mpr g)
      refine Wp.iload (pc' := 123) at_121 rfl rfl ?_
      refine Wp.ldcInt (v := (2097152 : Int32)) (pc' := 125) (hw _ (List.mem_of_getElem? (i := 10) rfl)) at_123 rfl ?_
      by_cases c125 : (Int32.ofNat u) < (2097152 : Int32)
      · refine Wp.icmpN (pc' := 128) at_125 (not_not_intro c125) rfl ?_
        have g2 : u < 2097152 := (own_lt (n := 2097152) (by omega) (by omega)).mp c125
        refine Wp.iconst (z := (3 : Int32)) (pc' := 129) at_128 (by decide) rfl ?_
        refine Wp.istore (L' := #[.val (.int p0), .val (.int p1), .val (.int p2), .val (.int p3), .val (.int (Int32.ofNat u)), .val (.int (Int32.ofNat t)), .val (.int fb), .val (.ref b), .val (.int (3 : Int32)), .unset]) (pc' := 131) at_129 rfl rfl ?_
        refine Wp.goto (pc' := 150) at_131 (by decide) (by decide) ?_
        exact tail 2 (by omega) (own_K2 (by omega) (by omega))
      · refine Wp.icmpY (pc' := 134) at_125 c125 (by decide) (by decide) ?_
        have g2 : ¬ u < 2097152 := fun g => c125 ((own_lt (n := 2097152) (by omega) (by omega)).mpr g)
        refine Wp.iload (pc' := 136) at_134 rfl rfl ?_
        refine Wp.ldcInt (v := (268435456 : Int32)) (pc' := 138) (hw _ (List.mem_of_getElem? (i := 11) rfl)) at_136 rfl ?_
        by_cases c138 : (Int32.ofNat u) < (268435456 : Int32)
        · refine Wp.icmpN (pc' := 141) at_138 (not_not_intro c138) rfl ?_
          have g3 : u < 268435456 := (own_lt (n := 268435456) (by omega) (by omega)).mp c138
          refine Wp.iconst (z := (4 : Int32)) (pc' := 142) at_141 (by decide) rfl ?_
          refine Wp.istore (L' := #[.val (.int p0), .val (.int p1), .val (.int p2), .val (.int p3), .val (.int (Int32.ofNat u)), .val (.int (Int32.ofNat t)), .val (.int fb), .val (.ref b), .val (.int (4 : Int32)), .unset]) (pc' := 144) at_142 rfl rfl ?_
          refine Wp.goto (pc' := 150) at_144 (by decide) (by decide) ?_
          exact tail 3 (by omega) (own_K3 (by omega) (by omega))
        · refine Wp.icmpY (pc' := 147) at_138 c138 (by decide) (by decide) ?_
          have g3 : ¬ u < 268435456 := fun g => c138 ((own_lt (n := 268435456) (by omega) (by omega)).mpr g)
          refine Wp.iconst (z := (5 : Int32)) (pc' := 148) at_147 (by decide) rfl ?_
          refine Wp.istore (L' := #[.val (.int p0), .val (.int p1), .val (.int p2), .val (.int p3), .val (.int (Int32.ofNat u)), .val (.int (Int32.ofNat t)), .val (.int fb), .val (.ref b), .val (.int (5 : Int32)), .unset]) (pc' := 150) at_148 rfl rfl ?_
          exact tail 4 (by omega) (own_K4 (by omega) (by omega))

set_option maxRecDepth 65536 in
set_option maxHeartbeats 40000000 in
theorem comes_1 {Post : Tables → Env → Array Value → State → Outcome → State → Prop} (hpost : ∀ tb e args s v u, (limb_1_1.after args s (.returned v) u = true ∧ limb_1_2.after args s (.returned v) u = true ∧ True) → FrameEnd s (.returned v) u (Jvm.fieldLocs frame_1_writes args s ++ Jvm.arrayLocs frame_1_arrays args s ++ Jvm.staticLocs frame_1_statics s) 16 128 → Post tb e args s (.returned v) u) :
    ArmFor flags0 classFile x code maxLocals ret World_1 tables_1 room_1 Calls_1 rest_1 Pre_1 Post := by
  intro l hfl _ _ p e ha hc hk s m args below hf hA hF happ hP
  obtain ⟨hcalls, hrest, hpre⟩ := hP
  obtain ⟨-, -, -, hnamed, -, -, -, hat⟩ := (Spec.applies_iff hf).mp happ
  obtain ⟨hg, hn⟩ := and_e (Cond.before_iff.mp (show (Jvm.Cond.and given_1 narrow_1).before args s = true from hpre))
  obtain ⟨g0, q0⟩ := and_e hg
  obtain ⟨w0, w1, w2, w3, rfl⟩ : ∃ w0 w1 w2 w3 : Value, args = #[w0, w1, w2, w3] := by
    have hs : args.size = 4 := by simpa [Cond.value, given_1] using g0
    obtain ⟨L⟩ := args
    match L, hs with
    | [w0, w1, w2, w3], _ => exact ⟨w0, w1, w2, w3, rfl⟩
  have hw := fun d (hd : d ∈ tables_1) => atoms_spec (ws := Jvm.Cond.code x code maxLocals ret :: tables_1) hat d (List.mem_cons_of_mem _ hd)
  obtain ⟨g1, q1⟩ := and_e q0
  obtain ⟨i0, e0⟩ := is_v g1
  obtain rfl : w0 = (.int i0) := Option.some.inj e0
  obtain ⟨g2, q2⟩ := and_e q1
  obtain ⟨i1, e1⟩ := is_v g2
  obtain rfl : w1 = (.int i1) := Option.some.inj e1
  obtain ⟨g3, q3⟩ := and_e q2
  obtain ⟨i2, e2⟩ := is_v g3
  obtain rfl : w2 = (.int i2) := Option.some.inj e2
  obtain ⟨i3, e3⟩ := is_v q3
  obtain rfl : w3 = (.int i3) := Option.some.inj e3
  obtain ⟨n, o, h1, h2, h3, v, L, rfl, ⟨hv, N⟩, hq⟩ := (rm0 l s _ hw i0 i1 i2 i3 s.heap s.heap.size (Nat.le_refl _)) tables_1 p e ha hc hk s m _ below hf ((Spec.applies_iff_loose hf).mp happ).1 ⟨rfl, State.Warmed39.refl s, rfl⟩ trivial
  subst hv
  refine ⟨n, _, h1, h2, h3, hpost _ _ _ _ _ _ ⟨Cond.after_iff.mpr rfl, Cond.after_iff.mpr (eq_i res_at (Term.int_eval (1)) rfl), trivial⟩ ⟨hq.1, hq.2.1, (hq.2.2.sift fun y hy => Or.inr (N y hy)).mono (by decide) (by decide)⟩⟩
theorem main_1_1 : Claimed_1_1 := comes_1 fun _ _ _ _ _ _ h hF => ⟨h.1, hF⟩
theorem main_1_2 : Claimed_1_2 := comes_1 fun _ _ _ _ _ _ h hF => ⟨h.2.1, hF⟩

end Jvm.Pilot.@@N@@
namespace Jvm.Pilot.@@N@@
open Jvm Jvm.ClassFile Sem Op Lib Jvm.Free Jvm.Stand Jvm.Pilot.@@N@@.Jvm.D
/-! MADE BY PROGRAM (witnessworld.py) out of the Statement's table words and the real class files: 9 classes; the members and pool entries that the words name. The judged class is class 1, her method 1. -/
namespace start1
open Jvm.ClassFile
def u (s : String) : CpInfo := .utf8 (stringToUtf16 s)
/-- a pool by its gaps: so many unusable entries, then the entry; so many at the end -/
def gap : Nat → List CpInfo → List CpInfo
  | 0, r => r
  | n + 1, r => .unusable :: gap n r
def poolList (es : List (Nat × CpInfo)) (last : Nat) : List CpInfo := es.foldr (fun e r => gap e.1 (e.2 :: r)) (gap last [])
def pool (es : List (Nat × CpInfo)) (last : Nat) : Array CpInfo := ⟨poolList es last⟩
def fileOf (pool : Array CpInfo) (this : Nat) (attrs : Array Attribute := #[]) (ms : Array MethodInfo := #[]) (fl : Nat := 33) (sup : Nat := 0) (ifs : Array Nat := #[]) (fds : Array FieldInfo := #[]) : ClassFile where
  minorVersion := 0
  majorVersion := 65
  constantPool := pool
  accessFlags := fl
  thisClass := this
  superClass := sup
  interfaces := ifs
  fields := fds
  methods := ms
  attributes := attrs
def plain (name : String) (sup : Option ClassId) : Class where
  name := name
  kind := .ordinary
  loader := none
  accessFlags := 33
  super := sup
  interfaces := #[]
  cf := none
  fields := #[]
  methods := #[]
  instanceTypes := #[]
  staticTypes := #[]
  resolved := #[]
  callSites := []
  init := .initialized
  statics := none
  mirror := none

def pool0 : Array CpInfo := pool [(5, u "<init>"), (0, u "()V"), (1, .class_ 10), (1, u "java/lang/Object")] 113

def k0m0 : Method := { name := "<init>", desc := "()V", sig := { parameters := [], returnType := none }, accessFlags := 1, code := none }
/-- java/lang/Object -/
def k0 : Class := { plain "java/lang/Object" none with
  accessFlags := 33
  interfaces := #[]
  cf := some (fileOf pool0 8 #[] #[{ accessFlags := 1, nameIndex := 5, descriptorIndex := 6, attributes := #[] }] 33 0 #[] #[])
  fields := #[]
  methods := #[k0m0]
  instanceTypes := #[]
  staticTypes := #[]
  resolved := Array.replicate 124 none
  statics := none }

def pool1 : Array CpInfo := pool [(2, .class_ 4), (1, u "java/lang/Object"), (0, u "<init>"), (0, u "()V"), (0, .integer 2147483647), (0, .integer 2097152), (0, .integer 268435456), (0, .methodref 11 12), (0, .class_ 13), (0, .nameAndType 14 15), (0, u "com/example/frugal_retrieval/frugalretrieval/index/VarInt"), (0, u "encode"), (0, u "(I[BI)I"), (0, .methodref 17 18), (0, .class_ 19), (0, .nameAndType 20 21), (0, u "com/example/frugal_retrieval/frugalretrieval/index/VarIntEncodePinLaw"), (0, u "ok"), (0, u "([BIIIIB)Z"), (2, u "law"), (0, u "(IIII)Z")] 5

def k1m0 : Method := { name := "<init>", desc := "()V", sig := { parameters := [], returnType := none }, accessFlags := 2, code := none }
def k1c1 : Code := { maxStack := 6, maxLocals := 10, code := code, exceptionTable := #[], attributes := #[] }
def k1m1 : Method := { name := "law", desc := "(IIII)Z", sig := { parameters := [.int, .int, .int, .int], returnType := some .boolean }, accessFlags := 9, code := some k1c1 }
def k1c2 : Code := { maxStack := 3, maxLocals := 9, code := method_3_code, exceptionTable := #[], attributes := #[] }
def k1m2 : Method := { name := "ok", desc := "([BIIIIB)Z", sig := { parameters := [(.array .byte), .int, .int, .int, .int, .byte], returnType := some .boolean }, accessFlags := 10, code := some k1c2 }
/-- com/example/frugal_retrieval/frugalretrieval/index/VarIntEncodePinLaw -/
def k1 : Class := { plain "com/example/frugal_retrieval/frugalretrieval/index/VarIntEncodePinLaw" (some 0) with
  accessFlags := 49
  interfaces := #[]
  cf := some (fileOf pool1 17 #[] #[{ accessFlags := 2, nameIndex := 5, descriptorIndex := 6, attributes := #[] }, { accessFlags := 9, nameIndex := 24, descriptorIndex := 25, attributes := #[] }, { accessFlags := 10, nameIndex := 20, descriptorIndex := 21, attributes := #[] }] 49 2 #[] #[])
  fields := #[]
  methods := #[k1m0, k1m1, k1m2]
  instanceTypes := #[]
  staticTypes := #[]
  resolved := Array.replicate 31 none
  statics := none }

def pool2 : Array CpInfo := pool [(2, .class_ 4), (1, u "java/lang/Object"), (0, u "<init>"), (0, u "()V"), (0, .class_ 8), (0, u "com/example/frugal_retrieval/frugalretrieval/index/VarInt"), (15, u "MAX_BYTES"), (0, u "I"), (4, u "encode"), (0, u "(I[BI)I")] 5

def k2m0 : Method := { name := "<init>", desc := "()V", sig := { parameters := [], returnType := none }, accessFlags := 2, code := none }
def k2c1 : Code := { maxStack := 4, maxLocals := 5, code := prog_73_method_2_code, exceptionTable := #[], attributes := #[] }
def k2m1 : Method := { name := "encode", desc := "(I[BI)I", sig := { parameters := [.int, (.array .byte), .int], returnType := some .int }, accessFlags := 8, code := some k2c1 }
/-- com/example/frugal_retrieval/frugalretrieval/index/VarInt -/
def k2 : Class := { plain "com/example/frugal_retrieval/frugalretrieval/index/VarInt" (some 0) with
  accessFlags := 48
  interfaces := #[]
  cf := some (fileOf pool2 7 #[] #[{ accessFlags := 2, nameIndex := 5, descriptorIndex := 6, attributes := #[] }, { accessFlags := 8, nameIndex := 30, descriptorIndex := 31, attributes := #[] }] 48 2 #[] #[{ accessFlags := 24, nameIndex := 24, descriptorIndex := 25, attributes := #[] }])
  fields := #[{ name := "MAX_BYTES", type := .int, accessFlags := 24, slot := 0, constantValue := 0 }]
  methods := #[k2m0, k2m1]
  instanceTypes := #[]
  staticTypes := #[.int]
  resolved := Array.replicate 37 none
  statics := none }

def pool3 : Array CpInfo := pool [(1, u "java/lang/Cloneable"), (0, .class_ 1), (0, u "java/lang/Object"), (0, .class_ 3)] 3

/-- java/lang/Cloneable -/
def k3 : Class := { plain "java/lang/Cloneable" (some 0) with
  accessFlags := 1537
  interfaces := #[]
  cf := some (fileOf pool3 2 #[] #[] 1537 4 #[] #[])
  fields := #[]
  methods := #[]
  instanceTypes := #[]
  staticTypes := #[]
  resolved := Array.replicate 8 none
  statics := none }

def pool4 : Array CpInfo := pool [(1, u "java/io/Serializable"), (0, .class_ 1), (0, u "java/lang/Object"), (0, .class_ 3)] 3

/-- java/io/Serializable -/
def k4 : Class := { plain "java/io/Serializable" (some 0) with
  accessFlags := 1537
  interfaces := #[]
  cf := some (fileOf pool4 2 #[] #[] 1537 4 #[] #[])
  fields := #[]
  methods := #[]
  instanceTypes := #[]
  staticTypes := #[]
  resolved := Array.replicate 8 none
  statics := none }

/-- the primitive byte -/
def k5 : Class := { plain "byte" none with kind := .primitive 'B', accessFlags := 0x411 }
/-- [B -/
def k6 : Class := { plain "[B" (some 0) with kind := .array 5 .byte, interfaces := #[3, 4], accessFlags := 1041 }

/-- the primitive int -/
def k7 : Class := { plain "int" none with kind := .primitive 'I', accessFlags := 0x411 }
/-- [I -/
def k8 : Class := { plain "[I" (some 0) with kind := .array 7 .int, interfaces := #[3, 4], accessFlags := 1041 }

def heap : Heap := #[]
def classes : Array Class := #[k0, k1, k2, k3, k4, k5, k6, k7, k8]
def interned : List (Array UInt16 × Addr) := []
def slotsUsed : Nat := 0
def theMethod : MethodId := ⟨1, 1⟩
def args0 : Array Value := #[.int 5, .int 300, .int 7, .int 9]
def aboutOver (below : List Frame) : State where
  vm := { classes := classes, interned := interned.toArray }
  heap := heap
  slotsUsed := slotsUsed
  threads := #[{ frames := .invoking theMethod args0 :: below }]
def below0 : List Frame := [.native { method := ⟨0, 0⟩, args := #[] }]
def about1 : State := aboutOver below0
def p0 : Program := .bare "" "" ""
def e0 : Env := launch0.env 0 0 0
theorem w_frames : about1.frames = Frame.invoking theMethod args0 :: below0 := rfl
set_option maxRecDepth 65536 in
theorem w_args : argsFit about1.vm theMethod args0 = true := by decide +kernel
set_option maxRecDepth 65536 in
theorem w_heap : heapFits about1 = true := by decide +kernel
set_option maxRecDepth 65536 in
theorem w_runnable : about1.curStatus? = some .runnable := by decide +kernel
set_option maxRecDepth 65536 in
theorem w_alone : about1.alone = true := by decide +kernel
set_option maxRecDepth 65536 in
theorem w_named : about1.methodNamed? x = some theMethod := by decide +kernel
set_option maxRecDepth 65536 in
theorem w_hears : about1.hears theMethod below0 = true := by decide +kernel
set_option maxRecDepth 65536 in
theorem w_ripe : about1.ripe theMethod args0 below0 = true := by decide +kernel
theorem w_running : about1.status = .running := rfl
set_option maxRecDepth 65536 in
theorem w_room : about1.hasRoom e0.platform room_1 = true :=
  launch0.hasRoom_least _ room_1 (by decide +kernel) (by decide +kernel) (by decide +kernel) (by decide +kernel) (by decide +kernel) (by decide +kernel)
theorem allAtoms_all (ts : List Jvm.Cond) (a : Array Jvm.Value) (st : Jvm.State) : (allAtoms ts).before a st = ts.all (fun c => c.before a st) := by
  induction ts with
  | nil => rfl
  | cons c t ih =>
    show (Jvm.Cond.and c (allAtoms t)).before a st = _
    rw [Jvm.Cond.before_and, ih, List.all_cons]
def words1 : List Jvm.Cond := Jvm.Cond.code x code maxLocals ret :: tables_1
/-- a 'code' word, met by the world's own term for the bytes: nothing is compared byte by byte -/
theorem code_word {y : MethodName} {bytes : ByteArray} {mx : Nat} {rt : Option FieldType} {a : Array Value} {s : State} {m : MethodId} {meth : Method} {c : Code} (h1 : s.methodNamed? y = some m) (h2 : s.vm.method? m = some meth) (h3 : meth.code = some c) (h4 : c.code = bytes)
    (h5 : (c.maxLocals == mx && c.exceptionTable.isEmpty && decide (c.maxStack ≤ mostOperands) && decide (meth.sig.returnType = rt) && !meth.locks && decide (parseMethodDescriptor y.desc = some meth.sig)) = true) : (Jvm.Cond.code y bytes mx rt).before a s = true := by
  simp only [Bool.and_eq_true, beq_iff_eq, Bool.not_eq_true', decide_eq_true_eq] at h5
  obtain ⟨⟨⟨⟨⟨g1, g2⟩, g3⟩, g4⟩, g5⟩, g6⟩ := h5
  simp [Cond.before, Cond.holds, Cond.value, h1, h2, h3, h4, g1, g2, g3, g4, g5, g6]
def isCode : Jvm.Cond → Bool
  | .code _ _ _ _ => true
  | _ => false
theorem all_split {L : List Jvm.Cond} {P : Jvm.Cond → Bool} (h1 : L.all (fun c => isCode c || P c) = true) (h2 : ∀ c ∈ L.filter isCode, P c = true) : L.all P = true := by
  refine List.all_eq_true.mpr fun c hc => ?_
  have h := List.all_eq_true.mp h1 c hc
  rcases Bool.eq_false_or_eq_true (isCode c) with hi | hi
  · exact h2 c (List.mem_filter.mpr ⟨hc, hi⟩)
  · simpa [hi] using h
set_option maxRecDepth 65536 in
theorem w_c0 : (Jvm.Cond.code x code maxLocals ret).before args0 about1 = true := code_word (m := ⟨1, 1⟩) (meth := k1m1) (c := k1c1) (by decide +kernel) rfl rfl rfl (by decide +kernel)
set_option maxRecDepth 65536 in
theorem w_c1 : (Jvm.Cond.code ({ cls := "com/example/frugal_retrieval/frugalretrieval/index/VarInt", name := "encode", desc := "(I[BI)I" } : Jvm.MethodName) prog_73_method_2_code (5 : Nat) (Option.some Jvm.ClassFile.FieldType.int)).before args0 about1 = true := code_word (m := ⟨2, 1⟩) (meth := k2m1) (c := k2c1) (by decide +kernel) rfl rfl rfl (by decide +kernel)
set_option maxRecDepth 65536 in
theorem w_c2 : (Jvm.Cond.code ({ cls := "com/example/frugal_retrieval/frugalretrieval/index/VarIntEncodePinLaw", name := "ok", desc := "([BIIIIB)Z" } : Jvm.MethodName) method_3_code (9 : Nat) (Option.some Jvm.ClassFile.FieldType.boolean)).before args0 about1 = true := code_word (m := ⟨1, 2⟩) (meth := k1m2) (c := k1c2) (by decide +kernel) rfl rfl rfl (by decide +kernel)
def codes1 : List Jvm.Cond := [Jvm.Cond.code x code maxLocals ret, Jvm.Cond.code ({ cls := "com/example/frugal_retrieval/frugalretrieval/index/VarInt", name := "encode", desc := "(I[BI)I" } : Jvm.MethodName) prog_73_method_2_code (5 : Nat) (Option.some Jvm.ClassFile.FieldType.int), Jvm.Cond.code ({ cls := "com/example/frugal_retrieval/frugalretrieval/index/VarIntEncodePinLaw", name := "ok", desc := "([BIIIIB)Z" } : Jvm.MethodName) method_3_code (9 : Nat) (Option.some Jvm.ClassFile.FieldType.boolean)]
set_option maxRecDepth 65536 in
theorem codes_eq : words1.filter isCode = codes1 := rfl
theorem w_codes : ∀ c ∈ words1.filter isCode, c.before args0 about1 = true := by
  rw [codes_eq]
  intro c hc
  simp only [codes1, List.mem_cons, List.not_mem_nil, or_false] at hc
  rcases hc with rfl | rfl | rfl
  · exact w_c0
  · exact w_c1
  · exact w_c2
set_option maxRecDepth 65536 in
theorem w_t1 : words1.all (fun c => isCode c || c.before args0 about1) = true := by decide +kernel
theorem w_tables : (allAtoms (Jvm.Cond.code x code maxLocals ret :: tables_1)).before args0 about1 = true := by
  rw [allAtoms_all]
  show words1.all (fun c => c.before args0 about1) = true
  refine all_split ?_ w_codes
  rw [w_t1]
set_option maxRecDepth 65536 in
theorem w_case : (Jvm.Cond.and given_1 narrow_1).before args0 about1 = true := by decide +kernel
theorem w_applies : (headSpec (Jvm.Cond.code x code maxLocals ret :: tables_1) room_1).applies x e0.platform about1 = true :=
  (Spec.applies_iff w_frames).mpr ⟨w_running, w_runnable, w_alone, w_named, w_hears, w_ripe, w_room, w_tables⟩
theorem atStart : AtStart classFile x code maxLocals ret World_1 tables_1 room_1 Calls_1 rest_1 Pre_1 launch0 p0 e0 about1 theMethod args0 below0 :=
  ⟨lists_1, trivial, launch0.admits_env _ _ _, launch0.least_env, fairChoices_fair.cas, fairChoices_fair.clock, w_frames, w_args, w_heap, w_applies, trivial, trivial, w_case⟩
end start1
theorem witness_1 : WitnessClaimed_1 := ⟨start1.p0, start1.e0, start1.about1, start1.theMethod, start1.args0, start1.below0, start1.atStart⟩
end Jvm.Pilot.@@N@@
