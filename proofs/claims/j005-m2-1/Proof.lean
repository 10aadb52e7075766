import JvmDerived
import JvmDerived.Pilot.@@N@@Statement
import JvmDerived.Pilot.@@N@@Code
set_option linter.unusedVariables false
set_option linter.unusedSimpArgs false
namespace Jvm.OwnKit
open Sem ClassFile Op Lib Jvm.Stand Jvm.Free Jvm.LawKit Jvm.RoadKit
/-! A small program logic over the library's laws of one family: Wp says that from a frame on the method comes back with Q. -/
def Cx (p : Program) (s : State) (m : MethodId) (meth : Method) (c : Code) (Z : State) (my : MethodName) (B : ByteArray) (ml : Nat) (ret : Option FieldType) : Prop :=
  p.tables.exec = Jvm.exec ∧ c.code = B ∧ c.maxLocals = ml ∧ Z.Warmed39 s.vm ∧ s.vm.findClass my.cls = some m.cls ∧ meth.name = my.name ∧ meth.sig.returnType = ret ∧ meth.locks = false
def Wp (l : Launch) (Z : State) (R : Room) (my : MethodName) (B : ByteArray) (ml : Nat) (ret : Option FieldType) (n0 : Nat) (Q : Option Value → Heap → Prop) (h : Heap) (cells slots pc : Nat) (L : Array Slot) (S : List Value) : Prop :=
  ∀ (p : Program) (e : Env) (s : State) (m : MethodId) (args : Array Value) (below : List Frame) (meth : Method) (c : Code) (T : State) (locs : List Loc),
    Cx p s m meth c Z my B ml ret → Stand p l e R s m args below meth c T locs cells slots → T.heap = h → Fr n0 locs →
    ∃ (s₂ : State) (o : Outcome), Steps p.tables e below (T.setTop (mkF m pc L S)) s₂ ∧ s₂.status = .running ∧ Ended s₂ below o ∧ ∃ v L', o = .returned v ∧ (Q v s₂.heap ∧ Fr n0 L') ∧ FrameEnd s o s₂ L' R.cells R.slots
/-- the contract of a method at given arguments and heap -/
def Met (l : Launch) (Z : State) (my : MethodName) (B : ByteArray) (ml : Nat) (ret : Option FieldType) (rm : Room) (as : Array Value) (h0 : Heap) (n0 : Nat) (Q : Option Value → Heap → Prop) : Prop :=
  ∀ ws : List Jvm.Cond, MetFree l my (head1 (Jvm.Cond.code my B ml ret :: ws) rm) (fun a U => a = as ∧ Z.Warmed39 U.vm ∧ U.heap = h0) (fun _ _ _ _ _ => True)
    (fun _ U o U' => ∃ v L, o = .returned v ∧ (Q v U'.heap ∧ Fr n0 L) ∧ FrameEnd U o U' L rm.cells rm.slots)
section Base
variable {l : Launch} {Z : State} {R : Room} {my : MethodName} {B : ByteArray} {ml : Nat} {ret : Option FieldType} {n0 : Nat} {Q : Option Value → Heap → Prop} {h : Heap} {cells slots pc : Nat} {L : Array Slot} {S : List Value} {a0 : Array Value}
theorem Met.of {as : Array Value} {L0 : Array Slot} (hpl : plainName my.cls = true) (ef : ∀ m, entryFrame m as ml = mkF m 0 L0 []) (body : Wp l Z R my B ml ret n0 Q h 0 0 0 L0 []) : Met l Z my B ml ret R as h n0 Q := by
  intro ws
  refine MetFree.of_bodySF (plainFor_of_name hpl) hisR ?_
  intro p e s m args below meth c s₁ Bd hml0 hP hK
  obtain ⟨rfl, hZ, hh⟩ := hP
  have X0 := Stand.of_body Bd
  have e0 : s₁.heap = h := by rw [← hh, Bd.state]; rfl
  obtain ⟨s₂, o, k1, k2⟩ := body p e s m _ below meth c s₁ [] ⟨Bd.exec, Bd.bytes, hml0, hZ, findClass_of_methodNamed Bd.named, (name_of_methodNamed Bd.named Bd.method).1, Bd.returns, Bd.notSynchronized⟩ X0 e0 (Fr.nil n0)
  exact ⟨s₂, o, castTop (ef m) k1, k2⟩
theorem Met.mono {rm : Room} {as : Array Value} {Q' : Option Value → Heap → Prop} (M : Met l Z my B ml ret rm as h n0 Q) (hq : ∀ v h', Q v h' → Q' v h') : Met l Z my B ml ret rm as h n0 Q' := by
  intro ws p e ha hc hk s m args below hf happ hP hK
  obtain ⟨n, o, h1, h2, h3, v, L, rfl, ⟨q1, q2⟩, q3⟩ := M ws p e ha hc hk s m args below hf happ hP hK
  exact ⟨n, _, h1, h2, h3, v, L, rfl, ⟨hq _ _ q1, q2⟩, q3⟩
theorem Wp.mono {Q' : Option Value → Heap → Prop} (W : Wp l Z R my B ml ret n0 Q h cells slots pc L S) (hq : ∀ v h', Q v h' → Q' v h') : Wp l Z R my B ml ret n0 Q' h cells slots pc L S := by
  intro p e s m args below meth c T locs K X eT N
  obtain ⟨s₂, o, k1, k2, k3, v, L', k4, k5, k6⟩ := W p e s m args below meth c T locs K X eT N
  exact ⟨s₂, o, k1, k2, k3, v, L', k4, ⟨hq _ _ k5.1, k5.2⟩, k6⟩
/-- the law's own body may end within any frame -/
theorem Wp.plain {pc' : Nat} {L' : Array Slot} {S' : List Value}
    (st : ∀ {p : Program} {e : Env} {s : State} {m : MethodId} {args : Array Value} {below : List Frame} {meth : Method} {c : Code} {T : State} {locs : List Loc}, Cx p s m meth c Z my B ml ret → Stand p l e R s m args below meth c T locs cells slots → T.heap = h → ∀ target, Steps p.tables e below (T.setTop (mkF m pc' L' S')) target → Steps p.tables e below (T.setTop (mkF m pc L S)) target)
    (r : Wp l Z R my B ml ret n0 Q h cells slots pc' L' S') : Wp l Z R my B ml ret n0 Q h cells slots pc L S := by
  intro p e s m args below meth c T locs K X eT N
  obtain ⟨s₂, o, k1, k2⟩ := r p e s m args below meth c T locs K X eT N
  exact ⟨s₂, o, st K X eT _ k1, k2⟩
theorem Wp.moved {pc' : Nat} {L' : Array Slot} {S' : List Value}
    (st : ∀ {p : Program} {e : Env} {s : State} {m : MethodId} {args : Array Value} {below : List Frame} {meth : Method} {c : Code} {T : State} {locs : List Loc}, Cx p s m meth c Z my B ml ret → Stand p l e R s m args below meth c T locs cells slots → T.heap = h → ∃ T', Stand p l e R s m args below meth c T' locs cells slots ∧ T'.heap = h ∧ ∀ target, Steps p.tables e below (T'.setTop (mkF m pc' L' S')) target → Steps p.tables e below (T.setTop (mkF m pc L S)) target)
    (r : Wp l Z R my B ml ret n0 Q h cells slots pc' L' S') : Wp l Z R my B ml ret n0 Q h cells slots pc L S := by
  intro p e s m args below meth c T locs K X eT N
  obtain ⟨T', X', e', st'⟩ := st K X eT
  obtain ⟨s₂, o, k1, k2⟩ := r p e s m args below meth c T' locs K X' e' N
  exact ⟨s₂, o, st' _ k1, k2⟩
/-! plain steps -/
theorem Wp.iloadN {k : Fin 4} {v : Int32} {pc' : Nat} (hd : decode B pc = .ok (.iload_n k, 1)) (hl : L[k.val]? = some (.val (.int v))) (hp : pc + 1 = pc') (r : Wp l Z R my B ml ret n0 Q h cells slots pc' L (.int v :: S)) : Wp l Z R my B ml ret n0 Q h cells slots pc L S := by
  subst hp; exact Wp.plain (fun K X _ target kt => XS.iloadN X.here K.1 rfl (hb K.2.1 hd) hl kt) r
theorem Wp.iload {k : Nat} {v : Int32} {pc' : Nat} (hd : decode B pc = .ok (.iload k, 2)) (hl : L[k]? = some (.val (.int v))) (hp : pc + 2 = pc') (r : Wp l Z R my B ml ret n0 Q h cells slots pc' L (.int v :: S)) : Wp l Z R my B ml ret n0 Q h cells slots pc L S := by
  subst hp; exact Wp.plain (fun K X _ target kt => XS.iload X.here K.1 rfl (hb K.2.1 hd) hl kt) r
theorem Wp.lloadN {k : Fin 4} {v : Int64} {pc' : Nat} (hd : decode B pc = .ok (.lload_n k, 1)) (hl : L[k.val]? = some (.val (.long v))) (hp : pc + 1 = pc') (r : Wp l Z R my B ml ret n0 Q h cells slots pc' L (.long v :: S)) : Wp l Z R my B ml ret n0 Q h cells slots pc L S := by
  subst hp; exact Wp.plain (fun K X _ target kt => XT.lloadN X.here K.1 rfl (hb K.2.1 hd) hl kt) r
theorem Wp.lload {k : Nat} {v : Int64} {pc' : Nat} (hd : decode B pc = .ok (.lload k, 2)) (hl : L[k]? = some (.val (.long v))) (hp : pc + 2 = pc') (r : Wp l Z R my B ml ret n0 Q h cells slots pc' L (.long v :: S)) : Wp l Z R my B ml ret n0 Q h cells slots pc L S := by
  subst hp; exact Wp.plain (fun K X _ target kt => XT.lload X.here K.1 rfl (hb K.2.1 hd) hl kt) r
theorem Wp.aloadN {k : Fin 4} {v : Value} {pc' : Nat} (hd : decode B pc = .ok (.aload_n k, 1)) (hl : L[k.val]? = some (.val v)) (hv : v.isRef = true) (hp : pc + 1 = pc') (r : Wp l Z R my B ml ret n0 Q h cells slots pc' L (v :: S)) : Wp l Z R my B ml ret n0 Q h cells slots pc L S := by
  subst hp; exact Wp.plain (fun K X _ target kt => XS.aloadN X.here K.1 rfl (hb K.2.1 hd) hl hv kt) r
theorem Wp.aload {k : Nat} {v : Value} {pc' : Nat} (hd : decode B pc = .ok (.aload k, 2)) (hl : L[k]? = some (.val v)) (hv : v.isRef = true) (hp : pc + 2 = pc') (r : Wp l Z R my B ml ret n0 Q h cells slots pc' L (v :: S)) : Wp l Z R my B ml ret n0 Q h cells slots pc L S := by
  subst hp; exact Wp.plain (fun K X _ target kt => XS.aload X.here K.1 rfl (hb K.2.1 hd) hl hv kt) r
theorem Wp.iconst {i : Int} {z : Int32} {pc' : Nat} (hd : decode B pc = .ok (.iconst i, 1)) (hz : Int32.ofInt i = z) (hp : pc + 1 = pc') (r : Wp l Z R my B ml ret n0 Q h cells slots pc' L (.int z :: S)) : Wp l Z R my B ml ret n0 Q h cells slots pc L S := by
  subst hp hz; exact Wp.plain (fun K X _ target kt => XS.iconst X.here K.1 rfl (hb K.2.1 hd) kt) r
theorem Wp.bipush {i : Int} {z : Int32} {pc' : Nat} (hd : decode B pc = .ok (.bipush i, 2)) (hz : (Int8.ofInt i).toInt32 = z) (hp : pc + 2 = pc') (r : Wp l Z R my B ml ret n0 Q h cells slots pc' L (.int z :: S)) : Wp l Z R my B ml ret n0 Q h cells slots pc L S := by
  subst hp hz; exact Wp.plain (fun K X _ target kt => XS.bipush X.here K.1 rfl (hb K.2.1 hd) kt) r
theorem Wp.sipush {i : Int} {z : Int32} {pc' : Nat} (hd : decode B pc = .ok (.sipush i, 3)) (hz : (Int16.ofInt i).toInt32 = z) (hp : pc + 3 = pc') (r : Wp l Z R my B ml ret n0 Q h cells slots pc' L (.int z :: S)) : Wp l Z R my B ml ret n0 Q h cells slots pc L S := by
  subst hp hz; exact Wp.plain (fun K X _ target kt => XS.sipush X.here K.1 rfl (hb K.2.1 hd) kt) r
theorem Wp.lconst {k : Fin 2} {z : Int64} {pc' : Nat} (hd : decode B pc = .ok (.lconst k, 1)) (hz : Int64.ofNat k = z) (hp : pc + 1 = pc') (r : Wp l Z R my B ml ret n0 Q h cells slots pc' L (.long z :: S)) : Wp l Z R my B ml ret n0 Q h cells slots pc L S := by
  subst hp hz; exact Wp.plain (fun K X _ target kt => XT.lconst X.here K.1 rfl (hb K.2.1 hd) kt) r
theorem Wp.aconstNull {pc' : Nat} (hd : decode B pc = .ok (.aconst_null, 1)) (hp : pc + 1 = pc') (r : Wp l Z R my B ml ret n0 Q h cells slots pc' L (.null :: S)) : Wp l Z R my B ml ret n0 Q h cells slots pc L S := by
  subst hp; exact Wp.plain (fun K X _ target kt => XS.aconstNull X.here K.1 rfl (hb K.2.1 hd) kt) r
theorem Wp.ldcInt {index : Nat} {v : Int32} {pc' : Nat} (w : (Jvm.Cond.constant my.cls index v).before a0 Z = true) (hd : decode B pc = .ok (.ldc index, 2)) (hp : pc + 2 = pc') (r : Wp l Z R my B ml ret n0 Q h cells slots pc' L (.int v :: S)) : Wp l Z R my B ml ret n0 Q h cells slots pc L S := by
  subst hp; exact Wp.plain (fun K X _ target kt => X.ldcInt K.1 K.2.2.2.2.1 (mv K.2.2.2.1 w) (g := mkF _ pc L S) rfl (hb K.2.1 hd) target kt) r
theorem Wp.ldc2Long {index : Nat} {v : Int64} {pc' : Nat} (w : (Jvm.Cond.constantLong my.cls index v).before a0 Z = true) (hd : decode B pc = .ok (.ldc2_w index, 3)) (hp : pc + 3 = pc') (r : Wp l Z R my B ml ret n0 Q h cells slots pc' L (.long v :: S)) : Wp l Z R my B ml ret n0 Q h cells slots pc L S := by
  subst hp; exact Wp.plain (fun K X _ target kt => X.ldc2Long K.1 K.2.2.2.2.1 (mv K.2.2.2.1 w) (g := mkF _ pc L S) rfl (hb K.2.1 hd) target kt) r
theorem Wp.istoreN {k : Fin 4} {v : Int32} {L' : Array Slot} {pc' : Nat} (hd : decode B pc = .ok (.istore_n k, 1)) (hl : storeLocals L k.val (.int v) = some L') (hp : pc + 1 = pc') (r : Wp l Z R my B ml ret n0 Q h cells slots pc' L' S) : Wp l Z R my B ml ret n0 Q h cells slots pc L (.int v :: S) := by
  subst hp; exact Wp.plain (fun K X _ target kt => XS.istoreN X.here K.1 rfl (hb K.2.1 hd) rfl hl kt) r
theorem Wp.istore {k : Nat} {v : Int32} {L' : Array Slot} {pc' : Nat} (hd : decode B pc = .ok (.istore k, 2)) (hl : storeLocals L k (.int v) = some L') (hp : pc + 2 = pc') (r : Wp l Z R my B ml ret n0 Q h cells slots pc' L' S) : Wp l Z R my B ml ret n0 Q h cells slots pc L (.int v :: S) := by
  subst hp; exact Wp.plain (fun K X _ target kt => XS.istore X.here K.1 rfl (hb K.2.1 hd) rfl hl kt) r
theorem Wp.lstoreN {k : Fin 4} {v : Int64} {L' : Array Slot} {pc' : Nat} (hd : decode B pc = .ok (.lstore_n k, 1)) (hl : storeLocals L k.val (.long v) = some L') (hp : pc + 1 = pc') (r : Wp l Z R my B ml ret n0 Q h cells slots pc' L' S) : Wp l Z R my B ml ret n0 Q h cells slots pc L (.long v :: S) := by
  subst hp; exact Wp.plain (fun K X _ target kt => XT.lstoreN X.here K.1 rfl (hb K.2.1 hd) rfl hl kt) r
theorem Wp.lstore {k : Nat} {v : Int64} {L' : Array Slot} {pc' : Nat} (hd : decode B pc = .ok (.lstore k, 2)) (hl : storeLocals L k (.long v) = some L') (hp : pc + 2 = pc') (r : Wp l Z R my B ml ret n0 Q h cells slots pc' L' S) : Wp l Z R my B ml ret n0 Q h cells slots pc L (.long v :: S) := by
  subst hp; exact Wp.plain (fun K X _ target kt => XT.lstore X.here K.1 rfl (hb K.2.1 hd) rfl hl kt) r
theorem Wp.astoreN {k : Fin 4} {v : Value} {L' : Array Slot} {pc' : Nat} (hd : decode B pc = .ok (.astore_n k, 1)) (hv : v.isRef = true) (hl : storeLocals L k.val v = some L') (hp : pc + 1 = pc') (r : Wp l Z R my B ml ret n0 Q h cells slots pc' L' S) : Wp l Z R my B ml ret n0 Q h cells slots pc L (v :: S) := by
  subst hp; exact Wp.plain (fun K X _ target kt => XS.astoreN X.here K.1 rfl (hb K.2.1 hd) rfl hv hl kt) r
theorem Wp.astore {k : Nat} {v : Value} {L' : Array Slot} {pc' : Nat} (hd : decode B pc = .ok (.astore k, 2)) (hv : v.isRef = true) (hl : storeLocals L k v = some L') (hp : pc + 2 = pc') (r : Wp l Z R my B ml ret n0 Q h cells slots pc' L' S) : Wp l Z R my B ml ret n0 Q h cells slots pc L (v :: S) := by
  subst hp; exact Wp.plain (fun K X _ target kt => XS.astore X.here K.1 rfl (hb K.2.1 hd) rfl hv hl kt) r
theorem Wp.iinc {k : Nat} {cst : Int} {x z : Int32} {L' : Array Slot} {pc' : Nat} (hd : decode B pc = .ok (.iinc k cst, 3)) (hl : L[k]? = some (.val (.int x))) (hz : x + Int32.ofInt cst = z) (hl' : storeLocals L k (.int z) = some L') (hp : pc + 3 = pc') (r : Wp l Z R my B ml ret n0 Q h cells slots pc' L' S) : Wp l Z R my B ml ret n0 Q h cells slots pc L S := by
  subst hp hz; exact Wp.plain (fun K X _ target kt => XS.iinc X.here K.1 rfl (hb K.2.1 hd) hl hl' kt) r
theorem Wp.dup {v : Value} {pc' : Nat} (hd : decode B pc = .ok (.dup, 1)) (hc : v.category = 1) (hp : pc + 1 = pc') (r : Wp l Z R my B ml ret n0 Q h cells slots pc' L (v :: v :: S)) : Wp l Z R my B ml ret n0 Q h cells slots pc L (v :: S) := by
  subst hp; exact Wp.plain (fun K X _ target kt => XS.dup X.here K.1 rfl (hb K.2.1 hd) rfl hc kt) r
theorem Wp.dupX1 {v w : Value} {pc' : Nat} (hd : decode B pc = .ok (.dup_x1, 1)) (hc : v.category = 1) (hc' : w.category = 1) (hp : pc + 1 = pc') (r : Wp l Z R my B ml ret n0 Q h cells slots pc' L (v :: w :: v :: S)) : Wp l Z R my B ml ret n0 Q h cells slots pc L (v :: w :: S) := by
  subst hp; exact Wp.plain (fun K X _ target kt => XT.dupX1 X.here K.1 rfl (hb K.2.1 hd) rfl hc hc' kt) r
theorem Wp.dup2 {v w : Value} {pc' : Nat} (hd : decode B pc = .ok (.dup2, 1)) (hc : v.category = 1) (hc' : w.category = 1) (hp : pc + 1 = pc') (r : Wp l Z R my B ml ret n0 Q h cells slots pc' L (v :: w :: v :: w :: S)) : Wp l Z R my B ml ret n0 Q h cells slots pc L (v :: w :: S) := by
  subst hp; exact Wp.plain (fun K X _ target kt => XT.dup2 X.here K.1 rfl (hb K.2.1 hd) rfl hc hc' kt) r
theorem Wp.dupX2 {u v w : Value} {pc' : Nat} (hd : decode B pc = .ok (.dup_x2, 1)) (hc : u.category = 1) (hc' : v.category = 1) (hc'' : w.category = 1) (hp : pc + 1 = pc') (r : Wp l Z R my B ml ret n0 Q h cells slots pc' L (u :: v :: w :: u :: S)) : Wp l Z R my B ml ret n0 Q h cells slots pc L (u :: v :: w :: S) := by
  subst hp
  refine Wp.plain (fun {p e s m args below meth c T locs} K X _ target kt => ?_) r
  have hx := K.1
  have hd' : decode c.code pc = .ok (.dup_x2, 1) := hb K.2.1 hd
  show Steps p.tables e below (T.setTop { method := m, pc := pc, locals := L, stack := u :: v :: w :: S, locked := none }) _
  jvm_step X.here [X.here.top, hx, hd', dup_x2.wp_sem, hc, hc', hc'']
  exact kt
theorem Wp.pop {v : Value} {pc' : Nat} (hd : decode B pc = .ok (.pop, 1)) (hc : v.category = 1) (hp : pc + 1 = pc') (r : Wp l Z R my B ml ret n0 Q h cells slots pc' L S) : Wp l Z R my B ml ret n0 Q h cells slots pc L (v :: S) := by
  subst hp; exact Wp.plain (fun K X _ target kt => XT.pop X.here K.1 rfl (hb K.2.1 hd) rfl hc kt) r
theorem Wp.iadd {x y z : Int32} {pc' : Nat} (hd : decode B pc = .ok (.iadd, 1)) (hz : x + y = z) (hp : pc + 1 = pc') (r : Wp l Z R my B ml ret n0 Q h cells slots pc' L (.int z :: S)) : Wp l Z R my B ml ret n0 Q h cells slots pc L (.int y :: .int x :: S) := by
  subst hp hz; exact Wp.plain (fun K X _ target kt => XS.iadd X.here K.1 rfl (hb K.2.1 hd) rfl kt) r
theorem Wp.isub {x y z : Int32} {pc' : Nat} (hd : decode B pc = .ok (.isub, 1)) (hz : x - y = z) (hp : pc + 1 = pc') (r : Wp l Z R my B ml ret n0 Q h cells slots pc' L (.int z :: S)) : Wp l Z R my B ml ret n0 Q h cells slots pc L (.int y :: .int x :: S) := by
  subst hp hz; exact Wp.plain (fun K X _ target kt => XS.isub X.here K.1 rfl (hb K.2.1 hd) rfl kt) r
theorem Wp.iand {x y z : Int32} {pc' : Nat} (hd : decode B pc = .ok (.iand, 1)) (hz : x &&& y = z) (hp : pc + 1 = pc') (r : Wp l Z R my B ml ret n0 Q h cells slots pc' L (.int z :: S)) : Wp l Z R my B ml ret n0 Q h cells slots pc L (.int y :: .int x :: S) := by
  subst hp hz; exact Wp.plain (fun K X _ target kt => XS.iand X.here K.1 rfl (hb K.2.1 hd) rfl kt) r
theorem Wp.imul {x y z : Int32} {pc' : Nat} (hd : decode B pc = .ok (.imul, 1)) (hz : x * y = z) (hp : pc + 1 = pc') (r : Wp l Z R my B ml ret n0 Q h cells slots pc' L (.int z :: S)) : Wp l Z R my B ml ret n0 Q h cells slots pc L (.int y :: .int x :: S) := by
  subst hp hz; exact Wp.plain (fun K X _ target kt => XS.imul X.here K.1 rfl (hb K.2.1 hd) rfl kt) r
theorem Wp.ior {x y z : Int32} {pc' : Nat} (hd : decode B pc = .ok (.ior, 1)) (hz : x ||| y = z) (hp : pc + 1 = pc') (r : Wp l Z R my B ml ret n0 Q h cells slots pc' L (.int z :: S)) : Wp l Z R my B ml ret n0 Q h cells slots pc L (.int y :: .int x :: S) := by
  subst hp hz; exact Wp.plain (fun K X _ target kt => XT.ior X.here K.1 rfl (hb K.2.1 hd) rfl kt) r
theorem Wp.ixor {x y z : Int32} {pc' : Nat} (hd : decode B pc = .ok (.ixor, 1)) (hz : x ^^^ y = z) (hp : pc + 1 = pc') (r : Wp l Z R my B ml ret n0 Q h cells slots pc' L (.int z :: S)) : Wp l Z R my B ml ret n0 Q h cells slots pc L (.int y :: .int x :: S) := by
  subst hp hz; exact Wp.plain (fun K X _ target kt => XT.ixor X.here K.1 rfl (hb K.2.1 hd) rfl kt) r
theorem Wp.ishl {x y z : Int32} {pc' : Nat} (hd : decode B pc = .ok (.ishl, 1)) (hz : x <<< (y &&& 31) = z) (hp : pc + 1 = pc') (r : Wp l Z R my B ml ret n0 Q h cells slots pc' L (.int z :: S)) : Wp l Z R my B ml ret n0 Q h cells slots pc L (.int y :: .int x :: S) := by
  subst hp hz; exact Wp.plain (fun K X _ target kt => XT.ishl X.here K.1 rfl (hb K.2.1 hd) rfl kt) r
theorem Wp.ishr {x y z : Int32} {pc' : Nat} (hd : decode B pc = .ok (.ishr, 1)) (hz : x >>> (y &&& 31) = z) (hp : pc + 1 = pc') (r : Wp l Z R my B ml ret n0 Q h cells slots pc' L (.int z :: S)) : Wp l Z R my B ml ret n0 Q h cells slots pc L (.int y :: .int x :: S) := by
  subst hp hz; exact Wp.plain (fun K X _ target kt => XT.ishr X.here K.1 rfl (hb K.2.1 hd) rfl kt) r
theorem Wp.iushr {x y z : Int32} {pc' : Nat} (hd : decode B pc = .ok (.iushr, 1)) (hz : XT.ushr x y = z) (hp : pc + 1 = pc') (r : Wp l Z R my B ml ret n0 Q h cells slots pc' L (.int z :: S)) : Wp l Z R my B ml ret n0 Q h cells slots pc L (.int y :: .int x :: S) := by
  subst hp hz; exact Wp.plain (fun K X _ target kt => XT.iushr X.here K.1 rfl (hb K.2.1 hd) rfl kt) r
theorem Wp.ladd {x y z : Int64} {pc' : Nat} (hd : decode B pc = .ok (.ladd, 1)) (hz : x + y = z) (hp : pc + 1 = pc') (r : Wp l Z R my B ml ret n0 Q h cells slots pc' L (.long z :: S)) : Wp l Z R my B ml ret n0 Q h cells slots pc L (.long y :: .long x :: S) := by
  subst hp hz; exact Wp.plain (fun K X _ target kt => XT.ladd X.here K.1 rfl (hb K.2.1 hd) rfl kt) r
theorem Wp.lsub {x y z : Int64} {pc' : Nat} (hd : decode B pc = .ok (.lsub, 1)) (hz : x - y = z) (hp : pc + 1 = pc') (r : Wp l Z R my B ml ret n0 Q h cells slots pc' L (.long z :: S)) : Wp l Z R my B ml ret n0 Q h cells slots pc L (.long y :: .long x :: S) := by
  subst hp hz; exact Wp.plain (fun K X _ target kt => XT.lsub X.here K.1 rfl (hb K.2.1 hd) rfl kt) r
theorem Wp.lmul {x y z : Int64} {pc' : Nat} (hd : decode B pc = .ok (.lmul, 1)) (hz : x * y = z) (hp : pc + 1 = pc') (r : Wp l Z R my B ml ret n0 Q h cells slots pc' L (.long z :: S)) : Wp l Z R my B ml ret n0 Q h cells slots pc L (.long y :: .long x :: S) := by
  subst hp hz; exact Wp.plain (fun K X _ target kt => XT.lmul X.here K.1 rfl (hb K.2.1 hd) rfl kt) r
theorem Wp.land {x y z : Int64} {pc' : Nat} (hd : decode B pc = .ok (.land, 1)) (hz : x &&& y = z) (hp : pc + 1 = pc') (r : Wp l Z R my B ml ret n0 Q h cells slots pc' L (.long z :: S)) : Wp l Z R my B ml ret n0 Q h cells slots pc L (.long y :: .long x :: S) := by
  subst hp hz; exact Wp.plain (fun K X _ target kt => XT.land X.here K.1 rfl (hb K.2.1 hd) rfl kt) r
theorem Wp.lor {x y z : Int64} {pc' : Nat} (hd : decode B pc = .ok (.lor, 1)) (hz : x ||| y = z) (hp : pc + 1 = pc') (r : Wp l Z R my B ml ret n0 Q h cells slots pc' L (.long z :: S)) : Wp l Z R my B ml ret n0 Q h cells slots pc L (.long y :: .long x :: S) := by
  subst hp hz; exact Wp.plain (fun K X _ target kt => XT.lor X.here K.1 rfl (hb K.2.1 hd) rfl kt) r
theorem Wp.lxor {x y z : Int64} {pc' : Nat} (hd : decode B pc = .ok (.lxor, 1)) (hz : x ^^^ y = z) (hp : pc + 1 = pc') (r : Wp l Z R my B ml ret n0 Q h cells slots pc' L (.long z :: S)) : Wp l Z R my B ml ret n0 Q h cells slots pc L (.long y :: .long x :: S) := by
  subst hp hz; exact Wp.plain (fun K X _ target kt => XT.lxor X.here K.1 rfl (hb K.2.1 hd) rfl kt) r
theorem Wp.i2l {x : Int32} {z : Int64} {pc' : Nat} (hd : decode B pc = .ok (.i2l, 1)) (hz : x.toInt64 = z) (hp : pc + 1 = pc') (r : Wp l Z R my B ml ret n0 Q h cells slots pc' L (.long z :: S)) : Wp l Z R my B ml ret n0 Q h cells slots pc L (.int x :: S) := by
  subst hp hz; exact Wp.plain (fun K X _ target kt => XT.i2l X.here K.1 rfl (hb K.2.1 hd) rfl kt) r
theorem Wp.l2i {x : Int64} {z : Int32} {pc' : Nat} (hd : decode B pc = .ok (.l2i, 1)) (hz : x.toInt32 = z) (hp : pc + 1 = pc') (r : Wp l Z R my B ml ret n0 Q h cells slots pc' L (.int z :: S)) : Wp l Z R my B ml ret n0 Q h cells slots pc L (.long x :: S) := by
  subst hp hz; exact Wp.plain (fun K X _ target kt => XT.l2i X.here K.1 rfl (hb K.2.1 hd) rfl kt) r
theorem Wp.i2b {x : Int32} {z : Int32} {pc' : Nat} (hd : decode B pc = .ok (.i2b, 1)) (hz : x.toInt8.toInt32 = z) (hp : pc + 1 = pc') (r : Wp l Z R my B ml ret n0 Q h cells slots pc' L (.int z :: S)) : Wp l Z R my B ml ret n0 Q h cells slots pc L (.int x :: S) := by
  subst hp hz; exact Wp.plain (fun K X _ target kt => XT.i2b X.here K.1 rfl (hb K.2.1 hd) rfl kt) r
theorem Wp.i2c {x : Int32} {z : Int32} {pc' : Nat} (hd : decode B pc = .ok (.i2c, 1)) (hz : x.toUInt32.toUInt16.toUInt32.toInt32 = z) (hp : pc + 1 = pc') (r : Wp l Z R my B ml ret n0 Q h cells slots pc' L (.int z :: S)) : Wp l Z R my B ml ret n0 Q h cells slots pc L (.int x :: S) := by
  subst hp hz; exact Wp.plain (fun K X _ target kt => XT.i2c X.here K.1 rfl (hb K.2.1 hd) rfl kt) r
theorem Wp.lshl {x z : Int64} {y : Int32} {pc' : Nat} (hd : decode B pc = .ok (.lshl, 1)) (hz : x <<< (y.toInt64 &&& 63) = z) (hp : pc + 1 = pc') (r : Wp l Z R my B ml ret n0 Q h cells slots pc' L (.long z :: S)) : Wp l Z R my B ml ret n0 Q h cells slots pc L (.int y :: .long x :: S) := by
  subst hp hz; exact Wp.plain (fun K X _ target kt => XT.lshl X.here K.1 rfl (hb K.2.1 hd) rfl kt) r
theorem Wp.lshr {x z : Int64} {y : Int32} {pc' : Nat} (hd : decode B pc = .ok (.lshr, 1)) (hz : x >>> (y.toInt64 &&& 63) = z) (hp : pc + 1 = pc') (r : Wp l Z R my B ml ret n0 Q h cells slots pc' L (.long z :: S)) : Wp l Z R my B ml ret n0 Q h cells slots pc L (.int y :: .long x :: S) := by
  subst hp hz; exact Wp.plain (fun K X _ target kt => XT.lshr X.here K.1 rfl (hb K.2.1 hd) rfl kt) r
theorem Wp.lushr {x z : Int64} {y : Int32} {pc' : Nat} (hd : decode B pc = .ok (.lushr, 1)) (hz : XT.ushrL x y = z) (hp : pc + 1 = pc') (r : Wp l Z R my B ml ret n0 Q h cells slots pc' L (.long z :: S)) : Wp l Z R my B ml ret n0 Q h cells slots pc L (.int y :: .long x :: S) := by
  subst hp hz; exact Wp.plain (fun K X _ target kt => XT.lushr X.here K.1 rfl (hb K.2.1 hd) rfl kt) r
theorem Wp.idiv {x y z : Int32} {pc' : Nat} (hd : decode B pc = .ok (.idiv, 1)) (hy : y ≠ 0) (hz : x / y = z) (hp : pc + 1 = pc') (r : Wp l Z R my B ml ret n0 Q h cells slots pc' L (.int z :: S)) : Wp l Z R my B ml ret n0 Q h cells slots pc L (.int y :: .int x :: S) := by
  subst hp hz; exact Wp.plain (fun K X _ target kt => XS.idiv X.here K.1 rfl (hb K.2.1 hd) rfl hy kt) r
theorem Wp.ldiv {x y z : Int64} {pc' : Nat} (hd : decode B pc = .ok (.ldiv, 1)) (hy : y ≠ 0) (hz : x / y = z) (hp : pc + 1 = pc') (r : Wp l Z R my B ml ret n0 Q h cells slots pc' L (.long z :: S)) : Wp l Z R my B ml ret n0 Q h cells slots pc L (.long y :: .long x :: S) := by
  subst hp hz; exact Wp.plain (fun K X _ target kt => XT.ldiv X.here K.1 rfl (hb K.2.1 hd) rfl hy kt) r
theorem Wp.lrem {x y z : Int64} {pc' : Nat} (hd : decode B pc = .ok (.lrem, 1)) (hy : y ≠ 0) (hz : x - (x / y) * y = z) (hp : pc + 1 = pc') (r : Wp l Z R my B ml ret n0 Q h cells slots pc' L (.long z :: S)) : Wp l Z R my B ml ret n0 Q h cells slots pc L (.long y :: .long x :: S) := by
  subst hp hz; exact Wp.plain (fun K X _ target kt => XT.lrem X.here K.1 rfl (hb K.2.1 hd) rfl hy kt) r
theorem Wp.irem {x y z : Int32} {pc' : Nat} (hd : decode B pc = .ok (.irem, 1)) (hy : y ≠ 0) (hz : x % y = z) (hp : pc + 1 = pc') (r : Wp l Z R my B ml ret n0 Q h cells slots pc' L (.int z :: S)) : Wp l Z R my B ml ret n0 Q h cells slots pc L (.int y :: .int x :: S) := by
  subst hp hz; exact Wp.plain (fun K X _ target kt => iremM X K.1 rfl (hb K.2.1 hd) rfl hy kt) r
theorem Wp.goto {o : Int} {pc' : Nat} (hd : decode B pc = .ok (.goto o, 3)) (ho : 0 ≤ (pc : Int) + o) (hp : ((pc : Int) + o).toNat = pc') (r : Wp l Z R my B ml ret n0 Q h cells slots pc' L S) : Wp l Z R my B ml ret n0 Q h cells slots pc L S :=
  Wp.plain (fun K X _ target kt => XS.goto X.here K.1 rfl rfl (hb K.2.1 hd) ho hp kt) r
/-- what a comparison asks -/
abbrev cdP (cd : ClassFile.Cond) (x y : Int32) : Prop := match cd with | .eq => x = y | .ne => x ≠ y | .lt => x < y | .ge => ¬ x < y | .gt => y < x | .le => ¬ y < x
theorem cdP_iff (cd : ClassFile.Cond) (x y : Int32) : if_icmp.holds cd x y = true ↔ cdP cd x y := by
  cases cd <;> simp [if_icmp.holds, cdP, Int32.not_lt]
theorem cdP_not (cd : ClassFile.Cond) (x y : Int32) (h : ¬ cdP cd x y) : if_icmp.holds cd x y = false := by
  cases q : if_icmp.holds cd x y
  · rfl
  · exact absurd ((cdP_iff cd x y).mp q) h
theorem Wp.icmpY {cd : ClassFile.Cond} {x y : Int32} {o : Int} {pc' : Nat} (hd : decode B pc = .ok (.if_icmp cd o, 3)) (hc : cdP cd x y) (ho : 0 ≤ (pc : Int) + o) (hp : ((pc : Int) + o).toNat = pc') (r : Wp l Z R my B ml ret n0 Q h cells slots pc' L S) : Wp l Z R my B ml ret n0 Q h cells slots pc L (.int y :: .int x :: S) :=
  Wp.plain (fun K X _ target kt => XS.icmpYes X.here K.1 rfl rfl (hb K.2.1 hd) rfl ((cdP_iff cd x y).mpr hc) ho hp kt) r
theorem Wp.icmpN {cd : ClassFile.Cond} {x y : Int32} {o : Int} {pc' : Nat} (hd : decode B pc = .ok (.if_icmp cd o, 3)) (hc : ¬ cdP cd x y) (hp : pc + 3 = pc') (r : Wp l Z R my B ml ret n0 Q h cells slots pc' L S) : Wp l Z R my B ml ret n0 Q h cells slots pc L (.int y :: .int x :: S) := by
  subst hp; exact Wp.plain (fun K X _ target kt => XS.icmpNo X.here K.1 rfl (hb K.2.1 hd) rfl (cdP_not cd x y hc) kt) r
theorem Wp.ifY {cd : ClassFile.Cond} {x : Int32} {o : Int} {pc' : Nat} (hd : decode B pc = .ok (.ifCond cd o, 3)) (hc : cdP cd x 0) (ho : 0 ≤ (pc : Int) + o) (hp : ((pc : Int) + o).toNat = pc') (r : Wp l Z R my B ml ret n0 Q h cells slots pc' L S) : Wp l Z R my B ml ret n0 Q h cells slots pc L (.int x :: S) :=
  Wp.plain (fun K X _ target kt => XS.ifYes X.here K.1 rfl rfl (hb K.2.1 hd) rfl ((if0 _ _).trans ((cdP_iff cd x 0).mpr hc)) ho hp kt) r
theorem Wp.ifN {cd : ClassFile.Cond} {x : Int32} {o : Int} {pc' : Nat} (hd : decode B pc = .ok (.ifCond cd o, 3)) (hc : ¬ cdP cd x 0) (hp : pc + 3 = pc') (r : Wp l Z R my B ml ret n0 Q h cells slots pc' L S) : Wp l Z R my B ml ret n0 Q h cells slots pc L (.int x :: S) := by
  subst hp; exact Wp.plain (fun K X _ target kt => XS.ifNo X.here K.1 rfl (hb K.2.1 hd) rfl ((if0 _ _).trans (cdP_not cd x 0 hc)) kt) r
/-- lcmp, then a branch on it -/
abbrev cdL (cd : ClassFile.Cond) (x y : Int64) : Prop := match cd with | .eq => x = y | .ne => x ≠ y | .lt => x < y | .ge => ¬ x < y | .gt => y < x | .le => ¬ y < x
theorem cmpL_lt (x y : Int64) : XT.cmpL x y < 0 ↔ x < y := lw_lt x y
theorem cmpL_gt (x y : Int64) : 0 < XT.cmpL x y ↔ y < x := lw_gt x y
theorem cmpL_eq (x y : Int64) : XT.cmpL x y = 0 ↔ x = y := lw_eq x y
theorem cdL_iff (cd : ClassFile.Cond) (x y : Int64) : cdP cd (XT.cmpL x y) 0 ↔ cdL cd x y := by
  cases cd
  · exact cmpL_eq x y
  · exact not_congr (cmpL_eq x y)
  · exact cmpL_lt x y
  · exact not_congr (cmpL_lt x y)
  · exact cmpL_gt x y
  · exact not_congr (cmpL_gt x y)
theorem Wp.lcmp {x y : Int64} {z : Int32} {pc' : Nat} (hd : decode B pc = .ok (.lcmp, 1)) (hz : XT.cmpL x y = z) (hp : pc + 1 = pc') (r : Wp l Z R my B ml ret n0 Q h cells slots pc' L (.int z :: S)) : Wp l Z R my B ml ret n0 Q h cells slots pc L (.long y :: .long x :: S) := by
  subst hp hz; exact Wp.plain (fun K X _ target kt => XT.lcmp X.here K.1 rfl (hb K.2.1 hd) rfl kt) r
theorem Wp.lcmpY {cd : ClassFile.Cond} {x y : Int64} {o : Int} {p1 pc' : Nat} (hd : decode B pc = .ok (.lcmp, 1)) (h1 : pc + 1 = p1) (hd' : decode B p1 = .ok (.ifCond cd o, 3)) (hc : cdL cd x y) (ho : 0 ≤ (p1 : Int) + o) (hp : ((p1 : Int) + o).toNat = pc') (r : Wp l Z R my B ml ret n0 Q h cells slots pc' L S) : Wp l Z R my B ml ret n0 Q h cells slots pc L (.long y :: .long x :: S) :=
  Wp.lcmp hd rfl h1 (Wp.ifY hd' ((cdL_iff cd x y).mpr hc) ho hp r)
theorem Wp.lcmpN {cd : ClassFile.Cond} {x y : Int64} {o : Int} {p1 pc' : Nat} (hd : decode B pc = .ok (.lcmp, 1)) (h1 : pc + 1 = p1) (hd' : decode B p1 = .ok (.ifCond cd o, 3)) (hc : ¬ cdL cd x y) (hp : p1 + 3 = pc') (r : Wp l Z R my B ml ret n0 Q h cells slots pc' L S) : Wp l Z R my B ml ret n0 Q h cells slots pc L (.long y :: .long x :: S) :=
  Wp.lcmp hd rfl h1 (Wp.ifN hd' (fun q => hc ((cdL_iff cd x y).mp q)) hp r)
theorem Wp.ifnullY {o : Int} {pc' : Nat} (hd : decode B pc = .ok (.ifnull o, 3)) (ho : 0 ≤ (pc : Int) + o) (hp : ((pc : Int) + o).toNat = pc') (r : Wp l Z R my B ml ret n0 Q h cells slots pc' L S) : Wp l Z R my B ml ret n0 Q h cells slots pc L (.null :: S) :=
  Wp.plain (fun K X _ target kt => XS.ifnullYes X.here K.1 rfl rfl (hb K.2.1 hd) rfl ho hp kt) r
theorem Wp.ifnullN {a : Addr} {o : Int} {pc' : Nat} (hd : decode B pc = .ok (.ifnull o, 3)) (hp : pc + 3 = pc') (r : Wp l Z R my B ml ret n0 Q h cells slots pc' L S) : Wp l Z R my B ml ret n0 Q h cells slots pc L (.ref a :: S) := by
  subst hp; exact Wp.plain (fun K X _ target kt => XS.ifnullNo X.here K.1 rfl (hb K.2.1 hd) rfl kt) r
theorem Wp.ifnonnullY {a : Addr} {o : Int} {pc' : Nat} (hd : decode B pc = .ok (.ifnonnull o, 3)) (ho : 0 ≤ (pc : Int) + o) (hp : ((pc : Int) + o).toNat = pc') (r : Wp l Z R my B ml ret n0 Q h cells slots pc' L S) : Wp l Z R my B ml ret n0 Q h cells slots pc L (.ref a :: S) :=
  Wp.plain (fun K X _ target kt => XT.ifnonnullYes X.here K.1 rfl rfl (hb K.2.1 hd) rfl ho hp kt) r
theorem Wp.ifnonnullN {o : Int} {pc' : Nat} (hd : decode B pc = .ok (.ifnonnull o, 3)) (hp : pc + 3 = pc') (r : Wp l Z R my B ml ret n0 Q h cells slots pc' L S) : Wp l Z R my B ml ret n0 Q h cells slots pc L (.null :: S) := by
  subst hp; exact Wp.plain (fun K X _ target kt => XT.ifnonnullNo X.here K.1 rfl (hb K.2.1 hd) rfl kt) r
theorem Wp.acmpY {cd : ClassFile.ACond} {v w : Value} {o : Int} {pc' : Nat} (hd : decode B pc = .ok (.if_acmp cd o, 3)) (hv : v.isRef = true) (hw : w.isRef = true) (hc : XT.acmp cd v w = true) (ho : 0 ≤ (pc : Int) + o) (hp : ((pc : Int) + o).toNat = pc') (r : Wp l Z R my B ml ret n0 Q h cells slots pc' L S) : Wp l Z R my B ml ret n0 Q h cells slots pc L (w :: v :: S) :=
  Wp.plain (fun K X _ target kt => XT.acmpYes X.here K.1 rfl rfl (hb K.2.1 hd) rfl hv hw hc ho hp kt) r
theorem Wp.acmpN {cd : ClassFile.ACond} {v w : Value} {o : Int} {pc' : Nat} (hd : decode B pc = .ok (.if_acmp cd o, 3)) (hv : v.isRef = true) (hw : w.isRef = true) (hc : XT.acmp cd v w = false) (hp : pc + 3 = pc') (r : Wp l Z R my B ml ret n0 Q h cells slots pc' L S) : Wp l Z R my B ml ret n0 Q h cells slots pc L (w :: v :: S) := by
  subst hp; exact Wp.plain (fun K X _ target kt => XT.acmpNo X.here K.1 rfl (hb K.2.1 hd) rfl hv hw hc kt) r
/-- lookupswitch: where it goes -/
theorem Wp.lsw {dflt o : Int} {pairs : Array (Int × Int)} {len : Nat} {i : Int32} {pc' : Nat} (hd : decode B pc = .ok (.lookupswitch dflt pairs, len)) (hsrt : ∀ (a b a' b' : Int), ((a, b), a', b') ∈ pairs.toList.zip pairs.toList.tail → a < a') (hq : lookupswitch.offset pairs.toList dflt i.toInt = o) (ho : 0 ≤ (pc : Int) + o) (hp : ((pc : Int) + o).toNat = pc') (r : Wp l Z R my B ml ret n0 Q h cells slots pc' L S) : Wp l Z R my B ml ret n0 Q h cells slots pc L (.int i :: S) := by
  subst hp hq
  refine Wp.plain (fun {p e s m args below meth c T locs} K X _ target kt => ?_) r
  have hx := K.1
  have hd' : decode c.code pc = .ok (.lookupswitch dflt pairs, len) := hb K.2.1 hd
  show Steps p.tables e below (T.setTop { method := m, pc := pc, locals := L, stack := .int i :: S, locked := none }) _
  jvm_step X.here [X.here.top, hx, hd', lookupswitch.wp_chain, ho]
  exact ⟨hsrt, kt⟩
/-! returns -/
theorem Wp.ends {v : Option Value} (hc : cells ≤ R.cells) (hs : slots ≤ R.slots) (hq : Q v h) (hv : ret = none → v = none)
    (st : ∀ {p : Program} {e : Env} {s : State} {m : MethodId} {args : Array Value} {below : List Frame} {meth : Method} {c : Code} {T : State} {locs : List Loc}, Cx p s m meth c Z my B ml ret → Stand p l e R s m args below meth c T locs cells slots → ∀ fs, (∀ (f : JFrame) (acts : List Action), f.method = m → f.locked = none → f.entered = [] → (doReturn e (T.setTop f) acts v).1 = T.setFrames fs) → Steps p.tables e below (T.setTop (mkF m pc L S)) (T.setFrames fs)) : Wp l Z R my B ml ret n0 Q h cells slots pc L S := by
  intro p e s m args below meth c T locs K X eT N
  obtain ⟨fs, hr, hrun, hended, hW, hsame⟩ := X.leave (v := v) (fun q => hv (K.2.2.2.2.2.2.1.symm.trans q)) K.2.2.2.2.2.2.2
  refine ⟨_, _, st K X fs hr, hrun, hended, v, locs, rfl, ⟨?_, N⟩, ⟨v, rfl⟩, hW, hsame.mono hc hs⟩
  show Q v T.heap
  rw [eT]; exact hq
theorem Wp.retOut {v : Value} {t : FieldType} {i : Instr} (ht : ret = some t) (hn : narrow t v = v)
    (hi : (i = .ireturn ∧ (t = .int ∨ t = .boolean ∨ t = .byte ∨ t = .char ∨ t = .short) ∧ ∃ z, v = .int z) ∨ (i = .lreturn ∧ t = .long ∧ ∃ z, v = .long z) ∨ (i = .dreturn ∧ t = .double ∧ ∃ z, v = .double z) ∨ (i = .freturn ∧ t = .float ∧ ∃ z, v = .float z) ∨ (i = .areturn ∧ t.isReference = true ∧ v.isRef = true))
    (hd : decode B pc = .ok (i, 1)) (hc : cells ≤ R.cells) (hs : slots ≤ R.slots) (hq : Q (some v) h) : Wp l Z R my B ml ret n0 Q h cells slots pc L (v :: S) :=
  Wp.ends hc hs hq (fun q => by rw [ht] at q; cases q) (fun K X fs hl => RoadKit.retOut X K.1 (K.2.2.2.2.2.2.1.trans ht) hn hi (hb K.2.1 hd) hl)
theorem Wp.retI {z : Int32} (ht : ret = some .int) (hd : decode B pc = .ok (.ireturn, 1)) (hc : cells ≤ R.cells) (hs : slots ≤ R.slots) (hq : Q (some (.int z)) h) : Wp l Z R my B ml ret n0 Q h cells slots pc L (.int z :: S) :=
  Wp.retOut ht rfl (Or.inl ⟨rfl, Or.inl rfl, z, rfl⟩) hd hc hs hq
theorem Wp.retL {z : Int64} (ht : ret = some .long) (hd : decode B pc = .ok (.lreturn, 1)) (hc : cells ≤ R.cells) (hs : slots ≤ R.slots) (hq : Q (some (.long z)) h) : Wp l Z R my B ml ret n0 Q h cells slots pc L (.long z :: S) :=
  Wp.retOut ht rfl (Or.inr (Or.inl ⟨rfl, rfl, z, rfl⟩)) hd hc hs hq
/-- a boolean, byte, char or short, that is one already -/
theorem Wp.retS {z : Int32} {t : FieldType} (ht : ret = some t) (hk : t = .boolean ∨ t = .byte ∨ t = .char ∨ t = .short) (hn : narrow t (.int z) = .int z) (hd : decode B pc = .ok (.ireturn, 1)) (hc : cells ≤ R.cells) (hs : slots ≤ R.slots) (hq : Q (some (.int z)) h) : Wp l Z R my B ml ret n0 Q h cells slots pc L (.int z :: S) :=
  Wp.retOut ht hn (Or.inl ⟨rfl, Or.inr hk, z, rfl⟩) hd hc hs hq
theorem Wp.retA {v : Value} {t : FieldType} (ht : ret = some t) (htr : t.isReference = true) (hv : v.isRef = true) (hn : narrow t v = v) (hd : decode B pc = .ok (.areturn, 1)) (hc : cells ≤ R.cells) (hs : slots ≤ R.slots) (hq : Q (some v) h) : Wp l Z R my B ml ret n0 Q h cells slots pc L (v :: S) :=
  Wp.retOut ht hn (Or.inr (Or.inr (Or.inr (Or.inr ⟨rfl, htr, hv⟩)))) hd hc hs hq
theorem Wp.ret0 (ht : ret = none) (hd : decode B pc = .ok (.return_, 1)) (hc : cells ≤ R.cells) (hs : slots ≤ R.slots) (hq : Q none h) : Wp l Z R my B ml ret n0 Q h cells slots pc L [] :=
  Wp.ends hc hs hq (fun _ => rfl) (fun K X fs hl => X.returnOut K.1 (K.2.2.2.2.2.2.1.trans ht) (hb K.2.1 hd) hl)
/-! calls -/
theorem Wp.callS {yy : MethodName} {B' : ByteArray} {ml' : Nat} {ret' : Option FieldType} {rm : Room} {Q' : Option Value → Heap → Prop} {index pc' : Nat} {argsL S0 : List Value} {as : Array Value} (M : Met l Z yy B' ml' ret' rm as h n0 Q')
    (wl : (Jvm.Cond.methodLink my.cls index yy).before a0 Z = true) (ws : (Jvm.Cond.static yy).before a0 Z = true) (wi : (Jvm.Cond.initialized yy.cls).before a0 Z = true) (wc : (Jvm.Cond.code yy B' ml' ret').before a0 Z = true)
    (hy : yy.cls ≠ "java/lang/invoke/MethodHandle" ∧ yy.cls ≠ "java/lang/invoke/VarHandle") {W : Nat} (hsz : L.size = ml) (hlen : ∀ sig, parseMethodDescriptor yy.desc = some sig → argsL.length = sig.parameters.length) (hst : S0 = argsL.reverse ++ S) (has : argsL.toArray = as) (hW : (S.map fun v => v.category).sum ≤ W)
    (hf : rm.frames + 1 ≤ R.frames) (hl : W + (ml' + 11) + rm.locals ≤ R.locals) (hc : cells + rm.cells ≤ R.cells) (hs : slots + rm.slots ≤ R.slots) (hd : decode B pc = .ok (.invokestatic index, 3)) (hp : pc + 3 = pc')
    (r : ∀ v h', Q' v h' → Wp l Z R my B ml ret n0 Q h' (cells + rm.cells) (slots + rm.slots) pc' L (v.toList ++ S)) : Wp l Z R my B ml ret n0 Q h cells slots pc L S0 := by
  intro p e s m args below meth c T locs K X eT N
  subst hp hst
  have hZ := K.2.2.2.1
  obtain ⟨v, vm₁, ⟨T', L', k', n'⟩, -, X', ⟨Lc, hQ, l', y', z'⟩, st⟩ := Jvm.LawKit.callS X K.1 (y := yy) K.2.2.2.2.1 (mvT hZ wl) (mvT hZ ws) (mvT hZ wi) (mvT hZ wc) hy (backOf (W := W) (Q := fun v h L => Q' v h ∧ Fr n0 L) (M []) hZ wc wi hf hl) (g := mkF m pc L (argsL.reverse ++ S)) rfl (hsz.trans K.2.2.1.symm) (argsL := argsL) (rest := S) hlen rfl (by show 2 * 0 + _ ≤ _; rw [Nat.mul_zero, Nat.zero_add]; exact hW) (hb K.2.1 hd) (fun _ _ => ⟨has, eT, hc, hs⟩)
  dsimp only [Pt.U, Pt.locs, Pt.cells, Pt.slots] at X' l' y' z' st hQ
  subst l' y' z'
  obtain ⟨s₂, o, k1, k2⟩ := r v _ hQ.1 p e s m args below meth c T' _ K X' rfl (Fr.app N hQ.2)
  exact ⟨s₂, o, st _ k1, k2⟩
theorem Wp.callV {yy zz : MethodName} {B' : ByteArray} {ml' : Nat} {ret' : Option FieldType} {rm : Room} {Q' : Option Value → Heap → Prop} {index pc' : Nat} {argsL S0 : List Value} {as : Array Value} {a : Addr} {C : String} (M : Met l Z zz B' ml' ret' rm as h n0 Q') (E : Exa Z h a C)
    (wl : (Jvm.Cond.methodLink my.cls index yy).before a0 Z = true) (wd : (Jvm.Cond.declares yy).before a0 Z = true) (wse : (Jvm.Cond.selects C yy zz).before a0 Z = true) (wm : (Jvm.Cond.instanceMethod zz).before a0 Z = true) (wi : (Jvm.Cond.initialized zz.cls).before a0 Z = true) (wc : (Jvm.Cond.code zz B' ml' ret').before a0 Z = true)
    (nf : ∀ s : State, Z.Warmed39 s.vm → NotFace s yy)
    (hy : yy.cls ≠ "java/lang/invoke/MethodHandle" ∧ yy.cls ≠ "java/lang/invoke/VarHandle") {W : Nat} (hsz : L.size = ml) (hlen : ∀ sig, parseMethodDescriptor yy.desc = some sig → argsL.length = sig.parameters.length) (hst : S0 = argsL.reverse ++ .ref a :: S) (has : (.ref a :: argsL).toArray = as) (hW : (S.map fun v => v.category).sum ≤ W)
    (hf : rm.frames + 1 ≤ R.frames) (hl : W + (ml' + 11) + rm.locals ≤ R.locals) (hc : cells + rm.cells ≤ R.cells) (hs : slots + rm.slots ≤ R.slots) (hd : decode B pc = .ok (.invokevirtual index, 3)) (hp : pc + 3 = pc')
    (r : ∀ v h', Q' v h' → Wp l Z R my B ml ret n0 Q h' (cells + rm.cells) (slots + rm.slots) pc' L (v.toList ++ S)) : Wp l Z R my B ml ret n0 Q h cells slots pc L S0 := by
  intro p e s m args below meth c T locs K X eT N
  subst hp hst
  have hZ := K.2.2.2.1
  obtain ⟨cB, kB, q1, -, q3⟩ := isOf hZ eT E
  obtain ⟨v, vm₁, ⟨T', L', k', n'⟩, -, X', ⟨Lc, hQ, l', y', z'⟩, st⟩ := X.virtualBack K.1 (y := yy) (z := zz) K.2.2.2.2.1 (mvT hZ wl) (mvT hZ wd) (nf s hZ) (mvT hZ wse) (mvT hZ wm) hy (backOf (W := W) (Q := fun v h L => Q' v h ∧ Fr n0 L) (M []) hZ wc wi hf hl) q1 q3 (g := mkF m pc L (argsL.reverse ++ .ref a :: S)) rfl (hsz.trans K.2.2.1.symm) (Steps.refl _) (argsL := argsL) (rest := S) hlen rfl (by show 2 * 0 + _ ≤ _; rw [Nat.mul_zero, Nat.zero_add]; exact hW) (hb K.2.1 hd) (fun _ _ => ⟨has, eT, hc, hs⟩)
  dsimp only [Pt.U, Pt.locs, Pt.cells, Pt.slots] at X' l' y' z' st hQ
  subst l' y' z'
  obtain ⟨s₂, o, k1, k2⟩ := r v _ hQ.1 p e s m args below meth c T' _ K X' rfl (Fr.app N hQ.2)
  exact ⟨s₂, o, st.trans k1, k2⟩
theorem nfS {yy : MethodName} {C : String} (w : (Jvm.Cond.selects C yy yy).before a0 Z = true) : ∀ s : State, Z.Warmed39 s.vm → NotFace s yy := fun s hZ => notFace_of_selects (args := #[]) (mvT hZ w)
theorem Wp.callI {yy : MethodName} {B' : ByteArray} {ml' : Nat} {rm : Room} {Q' : Option Value → Heap → Prop} {index pc' : Nat} {argsL S0 : List Value} {as : Array Value} {a : Addr} (M : Met l Z yy B' ml' none rm as h n0 Q') (hin : yy.name = "<init>")
    (wl : (Jvm.Cond.methodLink my.cls index yy).before a0 Z = true) (wm : (Jvm.Cond.instanceMethod yy).before a0 Z = true) (wi : (Jvm.Cond.initialized yy.cls).before a0 Z = true) (wc : (Jvm.Cond.code yy B' ml' none).before a0 Z = true)
    (hy : yy.cls ≠ "java/lang/invoke/MethodHandle" ∧ yy.cls ≠ "java/lang/invoke/VarHandle") {W : Nat} (hsz : L.size = ml) (hlen : ∀ sig, parseMethodDescriptor yy.desc = some sig → argsL.length = sig.parameters.length) (hst : S0 = argsL.reverse ++ .ref a :: S) (has : (.ref a :: argsL).toArray = as) (hW : (S.map fun v => v.category).sum ≤ W)
    (hf : rm.frames + 1 ≤ R.frames) (hl : W + (ml' + 11) + rm.locals ≤ R.locals) (hc : cells + rm.cells ≤ R.cells) (hs : slots + rm.slots ≤ R.slots) (hd : decode B pc = .ok (.invokespecial index, 3)) (hp : pc + 3 = pc')
    (r : ∀ v h', Q' v h' → Wp l Z R my B ml ret n0 Q h' (cells + rm.cells) (slots + rm.slots) pc' L (v.toList ++ S)) : Wp l Z R my B ml ret n0 Q h cells slots pc L S0 := by
  intro p e s m args below meth c T locs K X eT N
  subst hp hst
  have hZ := K.2.2.2.1
  obtain ⟨v, vm₁, ⟨T', L', k', n'⟩, -, X', ⟨Lc, hQ, l', y', z'⟩, st⟩ := X.specialBack K.1 (y := yy) hin K.2.2.2.2.1 (mvT hZ wl) (mvT hZ wm) (mvT hZ wc) hy (backOf (W := W) (Q := fun v h L => Q' v h ∧ Fr n0 L) (M []) hZ wc wi hf hl) (g := mkF m pc L (argsL.reverse ++ .ref a :: S)) rfl (hsz.trans K.2.2.1.symm) (Steps.refl _) (a := a) (argsL := argsL) (rest := S) hlen rfl (by show 2 * 0 + _ ≤ _; rw [Nat.mul_zero, Nat.zero_add]; exact hW) (hb K.2.1 hd) (fun _ _ => ⟨has, eT, hc, hs⟩)
  dsimp only [Pt.U, Pt.locs, Pt.cells, Pt.slots] at X' l' y' z' st hQ
  subst l' y' z'
  obtain ⟨s₂, o, k1, k2⟩ := r v _ hQ.1 p e s m args below meth c T' _ K X' rfl (Fr.app N hQ.2)
  exact ⟨s₂, o, st.trans k1, k2⟩
theorem Wp.initO {a : Addr} {index pc' : Nat} (wl : (Jvm.Cond.methodLink my.cls index Lib.objectInit).before a0 Z = true) (wm : (Jvm.Cond.instanceMethod Lib.objectInit).before a0 Z = true) (wc : (Jvm.Cond.code Lib.objectInit ⟨#[0xb1]⟩ 1 none).before a0 Z = true) {W : Nat} (hsz : L.size = ml) (hW : (S.map fun v => v.category).sum ≤ W) (hf : 1 ≤ R.frames) (hl : W + 12 ≤ R.locals)
    (hd : decode B pc = .ok (.invokespecial index, 3)) (hp : pc + 3 = pc') (r : Wp l Z R my B ml ret n0 Q h cells slots pc' L S) : Wp l Z R my B ml ret n0 Q h cells slots pc L (.ref a :: S) := by
  subst hp
  refine Wp.moved (fun {p e s m args below meth c T locs} K X eT => ?_) r
  exact RoadKit.initO X K.1 K.2.2.2.1 K.2.2.2.2.1 wl wm wc eT (g := mkF m pc L (.ref a :: S)) rfl (hsz.trans K.2.2.1.symm) rfl (hb K.2.1 hd) hf (by show 2 * 0 + _ ≤ _; rw [Nat.mul_zero, Nat.zero_add]; exact hW) hl
end Base
/-! what is known of the heap: a list of places, no two the same, all new, with what each holds -/
def Hp (h : Heap) (n0 : Nat) (Ls : List (Addr × (Cell → Prop))) : Prop := n0 ≤ h.size ∧ Ls.Pairwise (fun x y => x.1 ≠ y.1) ∧ ∀ q ∈ Ls, n0 ≤ q.1 ∧ ∃ c, h[q.1]? = some c ∧ q.2 c
/-- an array: its type, its kind, all its values -/
def ArC (Z : State) (k : ClassId) (ty : FieldType) (vs : List Value) (c : Cell) : Prop := Z.isArrayOf c ty ∧ c.vm ≠ .unknown ∧ c.cls = k ∧ c.slots.toList = vs ∧ ∀ v ∈ vs, fits ty v = true
def FdC (Z : State) (C : String) (f : String × String × Value) (c : Cell) : Prop := ∃ (cf : ClassId) (k : Class) (i : Nat) (fd : Field), Z.fieldFound? C f.1 f.2.1 = some (cf, k, i, fd) ∧ fd.isStatic = false ∧ c.vm ≠ .unknown ∧ c.vm.isStatics = false ∧ Z.vm.assignable c.cls cf = true ∧ c.slots[fd.slot]? = some f.2.2
/-- an object: its type, the fields that are told -/
def ObC (Z : State) (a0 : Array Value) (C : String) (fs : List (String × String × Value)) (c : Cell) : Prop :=
  (∃ k : Class, Z.vm.findClass C = some c.cls ∧ Z.vm.classes[c.cls]? = some k ∧ c.vm.isStatics = false ∧ (k.kind = .ordinary → c.slots.size = k.instanceTypes.size)) ∧ ∀ f ∈ fs, FdC Z C f c ∧ Laid Z a0 C C f.1 f.2.1 ∧ ∃ t, parseFieldDescriptor f.2.1 = some t
section Heap
variable {l : Launch} {Z : State} {R : Room} {my : MethodName} {B : ByteArray} {ml : Nat} {ret : Option FieldType} {n0 : Nat} {Q : Option Value → Heap → Prop} {h h' : Heap} {cells slots pc : Nat} {L : Array Slot} {S : List Value} {a0 : Array Value} {a : Addr} {P P' : Cell → Prop} {Ls Ls' LA LB : List (Addr × (Cell → Prop))} {k : ClassId} {ty : FieldType} {vs : List Value} {C n d : String} {v : Value} {fs F1 F2 : List (String × String × Value)}
theorem Hp.nil (q : n0 ≤ h.size) : Hp h n0 [] := ⟨q, List.Pairwise.nil, fun _ z => nomatch z⟩
theorem Hp.at (O : Hp h n0 Ls) {i : Nat} (hi : Ls[i]? = some (a, P)) : n0 ≤ a ∧ ∃ c, h[a]? = some c ∧ P c := O.2.2 _ (List.mem_of_getElem? hi)
theorem Hp.perm (O : Hp h n0 Ls) (q : Ls.Perm Ls') : Hp h n0 Ls' :=
  ⟨O.1, (q.pairwise_iff (fun {x y} (hh : x.1 ≠ y.1) => Ne.symm hh)).mp O.2.1, fun z hz => O.2.2 z (q.mem_iff.mpr hz)⟩
theorem Hp.front {x : Addr × (Cell → Prop)} (O : Hp h n0 (LA ++ x :: LB)) : Hp h n0 (x :: (LA ++ LB)) := O.perm List.perm_middle
theorem Hp.back {x : Addr × (Cell → Prop)} (O : Hp h n0 (x :: (LA ++ LB))) : Hp h n0 (LA ++ x :: LB) := O.perm List.perm_middle.symm
theorem Hp.drop {x : Addr × (Cell → Prop)} (O : Hp h n0 (x :: Ls)) : Hp h n0 Ls := ⟨O.1, (List.pairwise_cons.mp O.2.1).2, fun z hz => O.2.2 z (List.mem_cons_of_mem _ hz)⟩
theorem Hp.weak (O : Hp h n0 (LA ++ (a, P) :: LB)) (hP : ∀ c, P c → P' c) : Hp h n0 (LA ++ (a, P') :: LB) := by
  obtain ⟨h1, h2, h3⟩ := O
  refine ⟨h1, ?_, fun q hq => ?_⟩
  · rw [List.pairwise_append, List.pairwise_cons] at h2 ⊢
    refine ⟨h2.1, h2.2.1, fun x hx z hz => ?_⟩
    rcases List.mem_cons.mp hz with rfl | hz
    · exact h2.2.2 x hx (a, P) (List.mem_cons_self ..)
    · exact h2.2.2 x hx z (List.mem_cons_of_mem _ hz)
  · rcases List.mem_append.mp hq with hq | hq
    · exact h3 q (List.mem_append_left _ hq)
    · rcases List.mem_cons.mp hq with rfl | hq
      · obtain ⟨u1, c, u2, u3⟩ := h3 (a, P) (List.mem_append_right _ (List.mem_cons_self ..))
        exact ⟨u1, c, u2, hP c u3⟩
      · exact h3 q (List.mem_append_right _ (List.mem_cons_of_mem _ hq))
theorem Hp.wr {sl : Nat} (O : Hp h n0 (LA ++ (a, P) :: LB)) (W : Wr h h' a sl v) (hP : ∀ c, P c → P' (c.setSlot sl v)) : Hp h' n0 (LA ++ (a, P') :: LB) := by
  obtain ⟨h1, h2, h3⟩ := O
  have h2' := h2
  rw [List.pairwise_append, List.pairwise_cons] at h2'
  refine ⟨by rw [W.size]; exact h1, ?_, fun q hq => ?_⟩
  · rw [List.pairwise_append, List.pairwise_cons]
    refine ⟨h2'.1, h2'.2.1, fun x hx z hz => ?_⟩
    rcases List.mem_cons.mp hz with rfl | hz
    · exact h2'.2.2 x hx (a, P) (List.mem_cons_self ..)
    · exact h2'.2.2 x hx z (List.mem_cons_of_mem _ hz)
  · rcases List.mem_append.mp hq with hq | hq
    · obtain ⟨u1, c, u2, u3⟩ := h3 q (List.mem_append_left _ hq)
      obtain ⟨c', w1, -, -, -, w5, -⟩ := wr_at W u2
      have ne : q.1 ≠ a := h2'.2.2 q hq (a, P) (List.mem_cons_self ..)
      exact ⟨u1, c', w1, by rw [w5 ne]; exact u3⟩
    · rcases List.mem_cons.mp hq with rfl | hq
      · obtain ⟨u1, c, u2, u3⟩ := h3 (a, P) (List.mem_append_right _ (List.mem_cons_self ..))
        obtain ⟨c', w1, -, -, -, -, -, w7⟩ := wr_at W u2
        exact ⟨u1, c', w1, by rw [(w7 rfl).1]; exact hP c u3⟩
      · obtain ⟨u1, c, u2, u3⟩ := h3 q (List.mem_append_right _ (List.mem_cons_of_mem _ hq))
        obtain ⟨c', w1, -, -, -, w5, -⟩ := wr_at W u2
        have ne : q.1 ≠ a := fun e => h2'.2.1.1 q hq e.symm
        exact ⟨u1, c', w1, by rw [w5 ne]; exact u3⟩
theorem Hp.new {c : Cell} (O : Hp h n0 Ls) (E : Ext h h') (hc : h'[h.size]? = some c) (hP : P c) : Hp h' n0 ((h.size, P) :: Ls) := by
  obtain ⟨h1, h2, h3⟩ := O
  refine ⟨Nat.le_trans h1 E.1, List.pairwise_cons.mpr ⟨fun q hq e => ?_, h2⟩, fun q hq => ?_⟩
  · obtain ⟨-, c', u2, -⟩ := h3 q hq
    have := (Array.getElem?_eq_some_iff.mp u2).1
    have e' : h.size = q.1 := e
    omega
  · rcases List.mem_cons.mp hq with rfl | hq
    · exact ⟨h1, c, hc, hP⟩
    · obtain ⟨u1, c', u2, u3⟩ := h3 q hq
      exact ⟨u1, c', E.2 _ _ u2, u3⟩
theorem Hp.ne {i j : Nat} {b : Addr} (O : Hp h n0 Ls) (hi : Ls[i]? = some (a, P)) (hj : Ls[j]? = some (b, P')) (hij : i ≠ j) : a ≠ b := by
  obtain ⟨i1, e1⟩ := List.getElem?_eq_some_iff.mp hi
  obtain ⟨j1, e2⟩ := List.getElem?_eq_some_iff.mp hj
  have q := List.pairwise_iff_getElem.mp O.2.1
  rcases Nat.lt_or_gt_of_ne hij with u | u
  · have := q i j i1 j1 u
    rw [e1, e2] at this; exact this
  · have := q j i j1 i1 u
    rw [e1, e2] at this; exact Ne.symm this
theorem ArC.arr {c : Cell} (H : ArC Z k ty vs c) (hc : h[a]? = some c) : Arr Z h a c ty := ⟨hc, H.1, H.2.1⟩
theorem ArC.size {c : Cell} (H : ArC Z k ty vs c) : c.slots.size = vs.length := by rw [← H.2.2.2.1]; simp
theorem ArC.get {c : Cell} (H : ArC Z k ty vs c) (j : Nat) : c.slots[j]? = vs[j]? := by rw [← H.2.2.2.1]; simp
theorem ArC.set {c : Cell} (H : ArC Z k ty vs c) (j : Nat) (hv : fits ty v = true) : ArC Z k ty (vs.set j v) (c.setSlot j v) := by
  refine ⟨H.1, H.2.1, H.2.2.1, ?_, fun w hw => ?_⟩
  · rw [← H.2.2.2.1]; simp [Cell.setSlot]
  · rcases List.mem_or_eq_of_mem_set hw with q | rfl
    · exact H.2.2.2.2 w q
    · exact hv
theorem in_of {c : Cell} {j : Int32} {jn : Nat} (H : ArC Z k ty vs c) (hj : ¬ j < 0) (hjn : j.toNatClampNeg = jn) (hl : jn < vs.length) : ¬ (j < 0 ∨ c.slots.size ≤ j.toNatClampNeg) := by
  rw [H.size, hjn]; exact fun q => q.elim hj (fun q => by omega)
theorem default_fits (ty : FieldType) : fits ty (defaultValue ty) = true := by cases ty <;> rfl
/-! arrays -/
theorem Wp.newarr {aty : ArrayType} {nn : Int32} {m pc' cap : Nat} (O : Hp h n0 Ls) (w : (Jvm.Cond.arrayClass (newarray.typeOf aty)).before a0 Z = true) (hd : decode B pc = .ok (.newarray aty, 2)) (hn : ¬ nn < 0) (hm : nn.toNatClampNeg = m) (hcap : m ≤ cap) (hb' : cap * 8 ≤ 536870912) (hc : cells + 1 ≤ R.cells) (hl : slots + cap ≤ R.slots) (hp : pc + 2 = pc')
    (r : ∀ h' a k, Hp h' n0 ((a, ArC Z k (newarray.typeOf aty) (List.replicate m (defaultValue (newarray.typeOf aty)))) :: Ls) → Wp l Z R my B ml ret n0 Q h' (cells + 1) (slots + cap) pc' L (.ref a :: S)) : Wp l Z R my B ml ret n0 Q h cells slots pc L (.int nn :: S) := by
  intro p e s m' args below meth c T locs K X eT N
  subst hp hm
  obtain ⟨T', h', cA, X', e', E, A, st⟩ := RoadKit.newP X K.1 K.2.2.2.1 w eT (g := mkF m' pc L (.int nn :: S)) rfl (hb K.2.1 hd) rfl hn hcap hb' hc hl
  have O' : Hp h' n0 ((h.size, ArC Z cA (newarray.typeOf aty) (List.replicate nn.toNatClampNeg (defaultValue (newarray.typeOf aty)))) :: Ls) := O.new E A.1 ⟨A.2.1, A.2.2, rfl, by simp [newA], fun v hv => by rw [List.eq_of_mem_replicate hv]; exact default_fits _⟩
  obtain ⟨s₂, o, k1, k2⟩ := r h' h.size cA O' p e s m' args below meth c T' locs K X' e' N
  exact ⟨s₂, o, st _ k1, k2⟩
theorem Wp.arrlen {i pc' : Nat} {z : Int32} (O : Hp h n0 Ls) (hi : Ls[i]? = some (a, ArC Z k ty vs)) (hd : decode B pc = .ok (.arraylength, 1)) (hz : vs.length.toInt32 = z) (hp : pc + 1 = pc') (r : Wp l Z R my B ml ret n0 Q h cells slots pc' L (.int z :: S)) : Wp l Z R my B ml ret n0 Q h cells slots pc L (.ref a :: S) := by
  subst hp hz
  obtain ⟨-, c, hc, H⟩ := O.at hi
  refine Wp.plain (fun {p e s m args below meth c' T locs} K X eT target kt => ?_) r
  refine X.arraylength K.1 (cell := c) (by rw [eT]; exact hc) (State.isArrayOf_alike K.2.2.2.1.alike H.1) (g := mkF m pc L (.ref a :: S)) rfl (rest := S) rfl (hb K.2.1 hd) target ?_
  rw [H.size]; exact kt
theorem Wp.iaload {i pc' jn : Nat} {j : Int32} (O : Hp h n0 Ls) (hi : Ls[i]? = some (a, ArC Z k .int vs)) (hd : decode B pc = .ok (.iaload, 1)) (hj : ¬ j < 0) (hjn : j.toNatClampNeg = jn) (hv : vs[jn]? = some v) (hp : pc + 1 = pc') (r : Wp l Z R my B ml ret n0 Q h cells slots pc' L (v :: S)) : Wp l Z R my B ml ret n0 Q h cells slots pc L (.int j :: .ref a :: S) := by
  subst hp
  obtain ⟨-, c, hc, H⟩ := O.at hi
  have hl : jn < vs.length := (List.getElem?_eq_some_iff.mp hv).1
  refine Wp.plain (fun {p e s m args below meth c' T locs} K X eT target kt => ?_) r
  exact X.iaload K.1 (cell := c) (j := j) (v := v) (by rw [eT]; exact hc) (State.isArrayOf_alike K.2.2.2.1.alike H.1) H.2.1 (in_of H hj hjn hl) (by rw [H.get, hjn]; exact hv) (g := mkF m pc L (.int j :: .ref a :: S)) rfl rfl (hb K.2.1 hd) target kt
theorem Wp.laload {i pc' jn : Nat} {j : Int32} (O : Hp h n0 Ls) (hi : Ls[i]? = some (a, ArC Z k .long vs)) (hd : decode B pc = .ok (.laload, 1)) (hj : ¬ j < 0) (hjn : j.toNatClampNeg = jn) (hv : vs[jn]? = some v) (hp : pc + 1 = pc') (r : Wp l Z R my B ml ret n0 Q h cells slots pc' L (v :: S)) : Wp l Z R my B ml ret n0 Q h cells slots pc L (.int j :: .ref a :: S) := by
  subst hp
  obtain ⟨-, c, hc, H⟩ := O.at hi
  have hl : jn < vs.length := (List.getElem?_eq_some_iff.mp hv).1
  refine Wp.plain (fun {p e s m args below meth c' T locs} K X eT target kt => ?_) r
  exact X.laload K.1 (cell := c) (j := j) (v := v) (by rw [eT]; exact hc) (State.isArrayOf_alike K.2.2.2.1.alike H.1) H.2.1 (in_of H hj hjn hl) (by rw [H.get, hjn]; exact hv) (g := mkF m pc L (.int j :: .ref a :: S)) rfl rfl (hb K.2.1 hd) target kt
theorem Wp.caload {i pc' jn : Nat} {j : Int32} (O : Hp h n0 Ls) (hi : Ls[i]? = some (a, ArC Z k .char vs)) (hd : decode B pc = .ok (.caload, 1)) (hj : ¬ j < 0) (hjn : j.toNatClampNeg = jn) (hv : vs[jn]? = some v) (hp : pc + 1 = pc') (r : Wp l Z R my B ml ret n0 Q h cells slots pc' L (v :: S)) : Wp l Z R my B ml ret n0 Q h cells slots pc L (.int j :: .ref a :: S) := by
  subst hp
  obtain ⟨-, c, hc, H⟩ := O.at hi
  have hl : jn < vs.length := (List.getElem?_eq_some_iff.mp hv).1
  refine Wp.plain (fun {p e s m args below meth c' T locs} K X eT target kt => ?_) r
  exact X.caload K.1 (cell := c) (j := j) (v := v) (by rw [eT]; exact hc) (State.isArrayOf_alike K.2.2.2.1.alike H.1) H.2.1 (in_of H hj hjn hl) (by rw [H.get, hjn]; exact hv) (g := mkF m pc L (.int j :: .ref a :: S)) rfl rfl (hb K.2.1 hd) target kt
theorem Wp.baload {i pc' jn : Nat} {j : Int32} (O : Hp h n0 Ls) (hi : Ls[i]? = some (a, ArC Z k .byte vs)) (hd : decode B pc = .ok (.baload, 1)) (hj : ¬ j < 0) (hjn : j.toNatClampNeg = jn) (hv : vs[jn]? = some v) (hp : pc + 1 = pc') (r : Wp l Z R my B ml ret n0 Q h cells slots pc' L (v :: S)) : Wp l Z R my B ml ret n0 Q h cells slots pc L (.int j :: .ref a :: S) := by
  subst hp
  obtain ⟨-, c, hc, H⟩ := O.at hi
  have hl : jn < vs.length := (List.getElem?_eq_some_iff.mp hv).1
  refine Wp.plain (fun {p e s m args below meth c' T locs} K X eT target kt => ?_) r
  exact X.baloadBytes K.1 (cell := c) (j := j) (v := v) (by rw [eT]; exact hc) (State.isArrayOf_alike K.2.2.2.1.alike H.1) H.2.1 (in_of H hj hjn hl) (by rw [H.get, hjn]; exact hv) (g := mkF m pc L (.int j :: .ref a :: S)) rfl rfl (hb K.2.1 hd) target kt
theorem Wp.iastore {pc' jn : Nat} {j : Int32} {x : Int32} (O : Hp h n0 (LA ++ (a, ArC Z k .int vs) :: LB)) (hd : decode B pc = .ok (.iastore, 1)) (hj : ¬ j < 0) (hjn : j.toNatClampNeg = jn) (hl : jn < vs.length) (hp : pc + 1 = pc') (r : ∀ h', Hp h' n0 (LA ++ (a, ArC Z k .int (vs.set jn (.int x))) :: LB) → Wp l Z R my B ml ret n0 Q h' cells slots pc' L S) : Wp l Z R my B ml ret n0 Q h cells slots pc L (.int x :: .int j :: .ref a :: S) := by
  intro p e s m args below meth c' T locs K X eT N
  subst hp hjn
  obtain ⟨g0, c, hc, H⟩ := O.2.2 _ (List.mem_append_right _ (List.mem_cons_self ..))
  obtain ⟨T', h', X', e', W, st⟩ := RoadKit.stI X K.1 K.2.2.2.1 eT (H.arr hc) (j := j) (in_of H hj rfl hl) (g := mkF m pc L (.int x :: .int j :: .ref a :: S)) rfl rfl (hb K.2.1 hd)
  have O' := O.wr W (P' := ArC Z k .int (vs.set j.toNatClampNeg (.int x))) (fun c0 H0 => H0.set _ (rfl))
  obtain ⟨s₂, o, k1, k2⟩ := r h' O' p e s m args below meth c' T' _ K X' e' (Fr.snoc X' N g0)
  exact ⟨s₂, o, st _ k1, k2⟩
theorem Wp.lastore {pc' jn : Nat} {j : Int32} {x : Int64} (O : Hp h n0 (LA ++ (a, ArC Z k .long vs) :: LB)) (hd : decode B pc = .ok (.lastore, 1)) (hj : ¬ j < 0) (hjn : j.toNatClampNeg = jn) (hl : jn < vs.length) (hp : pc + 1 = pc') (r : ∀ h', Hp h' n0 (LA ++ (a, ArC Z k .long (vs.set jn (.long x))) :: LB) → Wp l Z R my B ml ret n0 Q h' cells slots pc' L S) : Wp l Z R my B ml ret n0 Q h cells slots pc L (.long x :: .int j :: .ref a :: S) := by
  intro p e s m args below meth c' T locs K X eT N
  subst hp hjn
  obtain ⟨g0, c, hc, H⟩ := O.2.2 _ (List.mem_append_right _ (List.mem_cons_self ..))
  obtain ⟨T', h', X', e', W, st⟩ := RoadKit.stJ X K.1 K.2.2.2.1 eT (H.arr hc) (j := j) (in_of H hj rfl hl) (g := mkF m pc L (.long x :: .int j :: .ref a :: S)) rfl rfl (hb K.2.1 hd)
  have O' := O.wr W (P' := ArC Z k .long (vs.set j.toNatClampNeg (.long x))) (fun c0 H0 => H0.set _ (rfl))
  obtain ⟨s₂, o, k1, k2⟩ := r h' O' p e s m args below meth c' T' _ K X' e' (Fr.snoc X' N g0)
  exact ⟨s₂, o, st _ k1, k2⟩
theorem Wp.castore {pc' jn : Nat} {j : Int32} {x : Int32} (O : Hp h n0 (LA ++ (a, ArC Z k .char vs) :: LB)) (hd : decode B pc = .ok (.castore, 1)) (hj : ¬ j < 0) (hjn : j.toNatClampNeg = jn) (hl : jn < vs.length) (hp : pc + 1 = pc') (r : ∀ h', Hp h' n0 (LA ++ (a, ArC Z k .char (vs.set jn (.int (nar .char x)))) :: LB) → Wp l Z R my B ml ret n0 Q h' cells slots pc' L S) : Wp l Z R my B ml ret n0 Q h cells slots pc L (.int x :: .int j :: .ref a :: S) := by
  intro p e s m args below meth c' T locs K X eT N
  subst hp hjn
  obtain ⟨g0, c, hc, H⟩ := O.2.2 _ (List.mem_append_right _ (List.mem_cons_self ..))
  obtain ⟨T', h', X', e', W, st⟩ := RoadKit.stC X K.1 K.2.2.2.1 eT (H.arr hc) (j := j) (in_of H hj rfl hl) (g := mkF m pc L (.int x :: .int j :: .ref a :: S)) rfl rfl (hb K.2.1 hd)
  have O' := O.wr W (P' := ArC Z k .char (vs.set j.toNatClampNeg (.int (nar .char x)))) (fun c0 H0 => H0.set _ (fits_nar_char x))
  obtain ⟨s₂, o, k1, k2⟩ := r h' O' p e s m args below meth c' T' _ K X' e' (Fr.snoc X' N g0)
  exact ⟨s₂, o, st _ k1, k2⟩
theorem Wp.bastore {pc' jn : Nat} {j : Int32} {x : Int32} (O : Hp h n0 (LA ++ (a, ArC Z k .byte vs) :: LB)) (hd : decode B pc = .ok (.bastore, 1)) (hj : ¬ j < 0) (hjn : j.toNatClampNeg = jn) (hl : jn < vs.length) (hp : pc + 1 = pc') (r : ∀ h', Hp h' n0 (LA ++ (a, ArC Z k .byte (vs.set jn (.int (nar .byte x)))) :: LB) → Wp l Z R my B ml ret n0 Q h' cells slots pc' L S) : Wp l Z R my B ml ret n0 Q h cells slots pc L (.int x :: .int j :: .ref a :: S) := by
  intro p e s m args below meth c' T locs K X eT N
  subst hp hjn
  obtain ⟨g0, c, hc, H⟩ := O.2.2 _ (List.mem_append_right _ (List.mem_cons_self ..))
  obtain ⟨T', h', X', e', W, st⟩ := RoadKit.stB X K.1 K.2.2.2.1 eT (H.arr hc) (j := j) (in_of H hj rfl hl) (g := mkF m pc L (.int x :: .int j :: .ref a :: S)) rfl rfl (hb K.2.1 hd)
  have O' := O.wr W (P' := ArC Z k .byte (vs.set j.toNatClampNeg (.int (nar .byte x)))) (fun c0 H0 => H0.set _ (fits_nar_byte x))
  obtain ⟨s₂, o, k1, k2⟩ := r h' O' p e s m args below meth c' T' _ K X' e' (Fr.snoc X' N g0)
  exact ⟨s₂, o, st _ k1, k2⟩
/-! objects -/
theorem FdC.fld {f : String × String × Value} {c : Cell} (F : FdC Z C f c) (hc : h[a]? = some c) : Fld Z h a C f.1 f.2.1 f.2.2 := by
  obtain ⟨cf, k, i, fd, h1, h2, h3, h4, h5, h6⟩ := F
  exact ⟨c, cf, k, i, fd, hc, h1, h2, h3, h4, h5, h6⟩
theorem ObC.exa {c : Cell} (H : ObC Z a0 C fs c) (hc : h[a]? = some c) : Exa Z h a C := by
  obtain ⟨⟨k, h1, h2, h3, h4⟩, -⟩ := H
  exact ⟨c, k, hc, h1, h2, h3, h4⟩
theorem Hp.exa {i : Nat} (O : Hp h n0 Ls) (hi : Ls[i]? = some (a, ObC Z a0 C fs)) : Exa Z h a C := by
  obtain ⟨-, c, hc, H⟩ := O.at hi
  exact H.exa hc
theorem Wp.newO {index nn pc' : Nat} (O : Hp h n0 Ls) (w : (Jvm.Cond.classLink my.cls index C).before a0 Z = true) (wi : (Jvm.Cond.instantiable C nn).before a0 Z = true) (wz : (Jvm.Cond.initialized C).before a0 Z = true) (fs : List (String × String × Value)) (hfs : ∀ f ∈ fs, Laid Z a0 C C f.1 f.2.1 ∧ ∃ t, parseFieldDescriptor f.2.1 = some t ∧ defaultValue t = f.2.2)
    (hd : decode B pc = .ok (.new index, 3)) (hc : cells + 1 ≤ R.cells) (hl : slots + nn ≤ R.slots) (hp : pc + 3 = pc') (r : ∀ h' a, Hp h' n0 ((a, ObC Z a0 C fs) :: Ls) → Wp l Z R my B ml ret n0 Q h' (cells + 1) (slots + nn) pc' L (.ref a :: S)) : Wp l Z R my B ml ret n0 Q h cells slots pc L S := by
  intro p e s m args below meth c' T locs K X eT N
  subst hp
  obtain ⟨T', h', X', e', E, A, D, -, st⟩ := RoadKit.newO X K.1 K.2.2.2.1 K.2.2.2.2.1 w wi wz eT (g := mkF m pc L S) rfl (hb K.2.1 hd) hc hl
  obtain ⟨c, kk, a1, a2, a3, a4, a5⟩ := A
  have O' : Hp h' n0 ((h.size, ObC Z a0 C fs) :: Ls) := O.new E a1 ⟨⟨kk, a2, a3, a4, a5⟩, fun f hf => by
    obtain ⟨q1, t, q2, q3⟩ := hfs f hf
    obtain ⟨c2, cf, k, i, fd, b1, b2, b3, b4, b5, b6, b7⟩ := D q1 q2
    cases a1.symm.trans b1
    exact ⟨⟨cf, k, i, fd, b2, b3, b4, b5, b6, by rw [← q3]; exact b7⟩, q1, t, q2⟩⟩
  obtain ⟨s₂, o, k1, k2⟩ := r h' h.size O' p e s m args below meth c' T' locs K X' e' N
  exact ⟨s₂, o, st _ k1, k2⟩
theorem Wp.getfield {i j index pc' : Nat} (O : Hp h n0 Ls) (hi : Ls[i]? = some (a, ObC Z a0 C fs)) (hj : fs[j]? = some (n, d, v)) (w : (Jvm.Cond.fieldLink my.cls index C n d).before a0 Z = true) (hd : decode B pc = .ok (.getfield index, 3)) (hp : pc + 3 = pc') (r : Wp l Z R my B ml ret n0 Q h cells slots pc' L (v :: S)) : Wp l Z R my B ml ret n0 Q h cells slots pc L (.ref a :: S) := by
  subst hp
  obtain ⟨-, c, hc, H⟩ := O.at hi
  have F := ((H.2 _ (List.mem_of_getElem? hj)).1).fld hc
  exact Wp.moved (fun {p e s m args below meth c' T locs} K X eT => RoadKit.getF X K.1 K.2.2.2.1 K.2.2.2.2.1 (host := "") (Or.inl w) Via.refl eT F (g := mkF m pc L (.ref a :: S)) rfl rfl (hb K.2.1 hd)) r
theorem Wp.putfield {index kk pc' : Nat} {old : Value} (O : Hp h n0 (LA ++ (a, ObC Z a0 C (F1 ++ (n, d, old) :: F2)) :: LB)) (w : (Jvm.Cond.fieldLink my.cls index C n d).before a0 Z = true) (Lw : (Jvm.Cond.lays C C n d).before a0 Z = true ∨ ((Jvm.Cond.laysFinal C C n d).before a0 Z = true ∧ my.cls = C ∧ my.name = "<init>")) (wi : (Jvm.Cond.instantiable C kk).before a0 Z = true)
    (hty : parseFieldDescriptor d = some ty) (hn : narrow ty v = v) (hf : fits ty v = true) (hne : ∀ f ∈ F1 ++ F2, f.1 ≠ n) (hd : decode B pc = .ok (.putfield index, 3)) (hp : pc + 3 = pc') (r : ∀ h', Hp h' n0 (LA ++ (a, ObC Z a0 C (F1 ++ (n, d, v) :: F2)) :: LB) → Wp l Z R my B ml ret n0 Q h' cells slots pc' L S) : Wp l Z R my B ml ret n0 Q h cells slots pc L (v :: .ref a :: S) := by
  intro p e s m args below meth c' T locs K X eT N
  subst hp
  obtain ⟨g0, c, hc, H⟩ := O.2.2 _ (List.mem_append_right _ (List.mem_cons_self ..))
  have Fm := H.2 (n, d, old) (List.mem_append_right _ (List.mem_cons_self ..))
  obtain ⟨T', h', X', e', W, st⟩ := RoadKit.putF X K.1 K.2.2.2.1 K.2.2.2.2.1 (host := "") (Or.inl w) Via.refl eT (Fm.1.fld hc) (H.exa hc) (Lw.imp id fun q => ⟨q.1, q.2.1, K.2.2.2.2.2.1.trans q.2.2⟩) wi hty hn hf (g := mkF m pc L (v :: .ref a :: S)) rfl rfl (hb K.2.1 hd)
  have O' := O.wr W (P' := ObC Z a0 C (F1 ++ (n, d, v) :: F2)) (fun c0 H0 => by
    obtain ⟨⟨k, h1, h2, h3, h4⟩, h5⟩ := H0
    refine ⟨⟨k, h1, h2, h3, fun q => by rw [sz_set]; exact h4 q⟩, fun f hf => ?_⟩
    have old' : ∀ f ∈ F1 ++ F2, FdC Z C f (c0.setSlot (RoadKit.slotOf Z C n d) v) ∧ Laid Z a0 C C f.1 f.2.1 ∧ ∃ t, parseFieldDescriptor f.2.1 = some t := fun f hf => by
      obtain ⟨⟨cf, kf, i, fd, b1, b2, b3, b4, b5, b6⟩, q1, t, q2⟩ := h5 f (by
        rcases List.mem_append.mp hf with u | u
        · exact List.mem_append_left _ u
        · exact List.mem_append_right _ (List.mem_cons_of_mem _ u))
      have ne := slot_ne q1 Fm.2.1 (hne f hf) q2 hty
      have es : RoadKit.slotOf Z C f.1 f.2.1 = fd.slot := by simp [RoadKit.slotOf, b1]
      refine ⟨⟨cf, kf, i, fd, b1, b2, b3, b4, b5, ?_⟩, q1, t, q2⟩
      show (c0.slots.setIfInBounds (RoadKit.slotOf Z C n d) v)[fd.slot]? = _
      rw [Array.getElem?_setIfInBounds_ne (by rw [← es]; exact Ne.symm ne)]; exact b6
    rcases List.mem_append.mp hf with u | u
    · exact old' f (List.mem_append_left _ u)
    · rcases List.mem_cons.mp u with rfl | u
      · obtain ⟨⟨cf, kf, i, fd, b1, b2, b3, b4, b5, b6⟩, q1, t, q2⟩ := h5 (n, d, old) (List.mem_append_right _ (List.mem_cons_self ..))
        have es : RoadKit.slotOf Z C n d = fd.slot := by
          have b1' : Z.fieldFound? C n d = some (cf, kf, i, fd) := b1
          simp [RoadKit.slotOf, b1']
        have hlt : fd.slot < c0.slots.size := (Array.getElem?_eq_some_iff.mp b6).1
        refine ⟨⟨cf, kf, i, fd, b1, b2, b3, b4, b5, ?_⟩, q1, t, q2⟩
        show (c0.slots.setIfInBounds (RoadKit.slotOf Z C n d) v)[fd.slot]? = _
        rw [es, Array.getElem?_setIfInBounds_self_of_lt hlt]
      · exact old' f (List.mem_append_right _ u))
  obtain ⟨s₂, o, k1, k2⟩ := r h' O' p e s m args below meth c' T' _ K X' e' (Fr.snoc X' N g0)
  exact ⟨s₂, o, st _ k1, k2⟩
end Heap
abbrev rmk (f c s w : Nat) : Room := { frames := f, cells := c, slots := s, locals := w }
end Jvm.OwnKit
namespace Jvm.OwnKit
open Sem ClassFile Op Lib Jvm.Stand Jvm.Free Jvm.LawKit Jvm.RoadKit
/-! more of the logic: an array's class by its name, clone, checkcast, arraycopy, a private method -/
section More
variable {l : Launch} {Z : State} {R : Room} {my : MethodName} {B : ByteArray} {ml : Nat} {ret : Option FieldType} {n0 : Nat} {Q : Option Value → Heap → Prop} {h h' : Heap} {cells slots pc : Nat} {L : Array Slot} {S : List Value} {a0 : Array Value} {a b : Addr} {P P' : Cell → Prop} {Ls Ls' LA LB : List (Addr × (Cell → Prop))} {k kb : ClassId} {ty : FieldType} {vs vd : List Value} {C n d : String} {v : Value}
theorem Wp.newarrE {aty : ArrayType} {nn : Int32} {m pc' cap : Nat} {ad : String} (O : Hp h n0 Ls) (w : (Jvm.Cond.arrayClass (newarray.typeOf aty)).before a0 Z = true) (hd : decode B pc = .ok (.newarray aty, 2)) (had : "[" ++ (newarray.typeOf aty).toString = ad) (hn : ¬ nn < 0) (hm : nn.toNatClampNeg = m) (hcap : m ≤ cap) (hb' : cap * 8 ≤ 536870912) (hc : cells + 1 ≤ R.cells) (hl : slots + cap ≤ R.slots) (hp : pc + 2 = pc')
    (r : ∀ h' a k, Z.vm.findClass ad = some k → Hp h' n0 ((a, ArC Z k (newarray.typeOf aty) (List.replicate m (defaultValue (newarray.typeOf aty)))) :: Ls) → Wp l Z R my B ml ret n0 Q h' (cells + 1) (slots + cap) pc' L (.ref a :: S)) : Wp l Z R my B ml ret n0 Q h cells slots pc L (.int nn :: S) := by
  intro p e s m' args below meth c T locs K X eT N
  subst hp hm
  obtain ⟨T', h', cA, X', e', E, A, Ex, st⟩ := RoadKit.newPE X K.1 K.2.2.2.1 w eT (g := mkF m' pc L (.int nn :: S)) rfl (hb K.2.1 hd) rfl hn hcap hb' hc hl had
  have O' : Hp h' n0 ((h.size, ArC Z cA (newarray.typeOf aty) (List.replicate nn.toNatClampNeg (defaultValue (newarray.typeOf aty)))) :: Ls) := O.new E A.1 ⟨A.2.1, A.2.2, rfl, by simp [newA], fun v hv => by rw [List.eq_of_mem_replicate hv]; exact default_fits _⟩
  obtain ⟨c2, kk, x1, x2, -⟩ := Ex
  cases A.1.symm.trans x1
  obtain ⟨s₂, o, k1, k2⟩ := r h' h.size cA x2 O' p e s m' args below meth c T' locs K X' e' N
  exact ⟨s₂, o, st _ k1, k2⟩
theorem ArC.exa {c : Cell} (H : ArC Z k ty vs c) (hk : Z.vm.findClass C = some k) (hc : h[a]? = some c) : Exa Z h a C := by
  obtain ⟨⟨q1, kk, q2, comp, q3⟩, h2, rfl, -⟩ := H
  refine ⟨c, kk, hc, hk, q2, ?_, fun q => by rw [q3] at q; cases q⟩
  cases hq : c.vm <;> first | rfl | exact absurd hq (q1 _)
theorem Wp.clone {i index pc' cap : Nat} (O : Hp h n0 Ls) (hi : Ls[i]? = some (a, ArC Z k ty vs)) (hk : Z.vm.findClass C = some k)
    (w1 : (Jvm.Cond.methodLink my.cls index ⟨C, "clone", "()Ljava/lang/Object;"⟩).before a0 Z = true) (w2 : (Jvm.Cond.sameMethod C "java/lang/Object" "clone" "()Ljava/lang/Object;").before a0 Z = true) (w3 : (Jvm.Cond.native ⟨"java/lang/Object", "clone", "()Ljava/lang/Object;"⟩).before a0 Z = true)
    (w4 : (Jvm.Cond.instanceMethod ⟨"java/lang/Object", "clone", "()Ljava/lang/Object;"⟩).before a0 Z = true) (w5 : (Jvm.Cond.selects C ⟨C, "clone", "()Ljava/lang/Object;"⟩ ⟨"java/lang/Object", "clone", "()Ljava/lang/Object;"⟩).before a0 Z = true) (w6 : (Jvm.Cond.castable C "java/lang/Cloneable").before a0 Z = true)
    {W : Nat} (hsz : L.size = ml) (hW : (S.map fun v => v.category).sum ≤ W) (hf : 1 ≤ R.frames) (hl : W + 14 ≤ R.locals) (hcap : vs.length ≤ cap) (hc : cells + 1 ≤ R.cells) (hs : slots + cap ≤ R.slots) (hd : decode B pc = .ok (.invokevirtual index, 3)) (hp : pc + 3 = pc')
    (r : ∀ h' b, Hp h' n0 ((b, ArC Z k ty vs) :: Ls) → Wp l Z R my B ml ret n0 Q h' (cells + 1) (slots + cap) pc' L (.ref b :: S)) : Wp l Z R my B ml ret n0 Q h cells slots pc L (.ref a :: S) := by
  intro p e s m args below meth c' T locs K X eT N
  subst hp
  obtain ⟨g0, c, hc', H⟩ := O.at hi
  have FC : FitC Z c := fitC_of (H.arr hc') fun i hi v hv => H.2.2.2.2 v (by rw [H.get] at hv; exact List.mem_of_getElem? hv)
  obtain ⟨T', h', X', e', E, A, -, st⟩ := RoadKit.cloneA X K.1 K.2.2.2.1 K.2.2.2.2.1 w1 w2 w3 w4 w5 w6 eT (H.arr hc') (H.exa hk hc') FC (g := mkF m pc L (.ref a :: S)) rfl (hsz.trans K.2.2.1.symm) rfl (hb K.2.1 hd) hf (by show 2 * 0 + _ ≤ _; rw [Nat.mul_zero, Nat.zero_add]; exact hW) hl (by rw [H.size]; exact hcap) hc hs
  have O' : Hp h' n0 ((h.size, ArC Z k ty vs) :: Ls) := O.new E A.1 ⟨A.2.1, A.2.2, H.2.2.1, H.2.2.2.1, H.2.2.2.2⟩
  obtain ⟨s₂, o, k1, k2⟩ := r h' h.size O' p e s m args below meth c' T' locs K X' e' N
  exact ⟨s₂, o, st _ k1, k2⟩
theorem Hp.insA {i : Nat} (O : Hp h n0 Ls) (hi : Ls[i]? = some (a, ArC Z k ty vs)) (hk : Z.vm.findClass C = some k) : Ins Z h a C true := by
  obtain ⟨-, c, hc, H⟩ := O.at hi
  exact Ins.self (H.exa hk hc)
theorem Wp.checkcast {index pc' : Nat} (I : Ins Z h a C true) (w : (Jvm.Cond.classLink my.cls index C).before a0 Z = true) (hd : decode B pc = .ok (.checkcast index, 3)) (hp : pc + 3 = pc') (r : Wp l Z R my B ml ret n0 Q h cells slots pc' L (.ref a :: S)) : Wp l Z R my B ml ret n0 Q h cells slots pc L (.ref a :: S) := by
  subst hp
  exact Wp.moved (fun {p e s m args below meth c' T locs} K X eT => RoadKit.castY X K.1 K.2.2.2.1 K.2.2.2.2.1 w eT I (g := mkF m pc L (.ref a :: S)) rfl rfl (hb K.2.1 hd)) r
theorem ArC.arv {c : Cell} (H : ArC Z k ty vs c) (hc : h[a]? = some c) (hl : vs.length < 2147483648) (dv : Value) : Arv Z h a k ty (Int32.ofNat vs.length) vs dv := by
  have e : (Int32.ofNat vs.length).toNatClampNeg = vs.length := by rw [Int32.toNatClampNeg, Int32.toInt_ofNat_of_lt (by omega)]; rfl
  have g : ∀ i, i < vs.length → vs[i]? = some (vs.getD i dv) := fun i hi => by rw [List.getD_eq_getElem?_getD, List.getElem?_eq_getElem hi]; rfl
  refine ⟨c, H.arr hc, H.2.2.1, by rw [H.size, e], ?_, fun i hi => ?_, fun i hi => ?_⟩
  · rw [Int32.lt_iff_toInt_lt, Int32.toInt_ofNat_of_lt (by omega), show (0 : Int32).toInt = 0 from rfl]; omega
  · rw [H.size] at hi; rw [H.get, g i hi]
  · rw [H.size] at hi; exact H.2.2.2.2 _ (List.mem_of_getElem? (g i hi))
theorem Arv.arC {z : Int32} {dv : Value} (F : Arv Z h a k ty z vs dv) (hz : z.toNatClampNeg = vs.length) : ∃ c, h[a]? = some c ∧ ArC Z k ty vs c := by
  obtain ⟨c, A, q1, S, -, H, G⟩ := F
  rw [hz] at S
  have g : ∀ i, i < vs.length → vs[i]? = some (vs.getD i dv) := fun i hi => by rw [List.getD_eq_getElem?_getD, List.getElem?_eq_getElem hi]; rfl
  refine ⟨c, A.1, A.2.1, A.2.2, q1, ?_, fun v hv => ?_⟩
  · apply List.ext_getElem?
    intro i
    rw [Array.getElem?_toList]
    by_cases hi : i < vs.length
    · rw [H i (by omega), g i hi]
    · rw [Array.getElem?_eq_none (by omega), List.getElem?_eq_none (by omega)]
  · obtain ⟨i, hi, rfl⟩ := List.getElem_of_mem hv
    have := G i (by omega)
    rw [List.getD_eq_getElem?_getD, List.getElem?_eq_getElem hi] at this
    exact this
theorem range_take {sp nn : Nat} {dv : Value} (h4 : sp + nn ≤ vs.length) : ((List.range nn).map fun i => vs.getD (sp + i) dv) = (vs.drop sp).take nn := by
  apply List.ext_getElem
  · simp; omega
  · intro i h1 h2
    simp at h1
    have : sp + i < vs.length := by omega
    simp [this]
theorem Wp.arraycopy {i index pc' sp dp nn : Nat} {zs zd zn : Int32} (O : Hp h n0 ((b, ArC Z kb ty vd) :: Ls)) (hi : Ls[i]? = some (a, ArC Z k ty vs)) (hty : refKind ty = false)
    (w1 : (Jvm.Cond.methodLink my.cls index Jvm.Stand.acN).before a0 Z = true) (w2 : (Jvm.Cond.native Jvm.Stand.acN).before a0 Z = true) (w3 : (Jvm.Cond.static Jvm.Stand.acN).before a0 Z = true) (w4 : (Jvm.Cond.initialized "java/lang/System").before a0 Z = true)
    (hs1 : zs = Int32.ofNat sp) (hd1 : zd = Int32.ofNat dp) (hn1 : zn = Int32.ofNat nn) (hv : vs.length < 2147483648) (hv' : vd.length < 2147483648) (h4 : sp + nn ≤ vs.length) (h5 : dp + nn ≤ vd.length)
    {W : Nat} (hsz : L.size = ml) (hW : (S.map fun v => v.category).sum ≤ W) (hf : 1 ≤ R.frames) (hl : W + (nativeFrameWords "java/lang/System" "arraycopy" 5 + 11) ≤ R.locals) (hd : decode B pc = .ok (.invokestatic index, 3)) (hp : pc + 3 = pc')
    (r : ∀ h', Hp h' n0 ((b, ArC Z kb ty (vd.take dp ++ (vs.drop sp).take nn ++ vd.drop (dp + nn))) :: Ls) → Wp l Z R my B ml ret n0 Q h' cells slots pc' L S) : Wp l Z R my B ml ret n0 Q h cells slots pc L (.int zn :: .int zd :: .ref b :: .int zs :: .ref a :: S) := by
  intro p e s m args below meth c' T locs K X eT N
  subst hp hs1 hd1 hn1
  have O2 := O
  obtain ⟨o1, o2, o3⟩ := O
  obtain ⟨g0, cb, hcb, Hb⟩ := o3 _ (List.mem_cons_self ..)
  obtain ⟨ga, ca, hca, Ha⟩ := o3 _ (List.mem_cons_of_mem _ (List.mem_of_getElem? hi))
  have n32 : ∀ {q : Nat}, q < 2147483648 → (Int32.ofNat q).toNatClampNeg = q := fun {q} hq => by rw [Int32.toNatClampNeg, Int32.toInt_ofNat_of_lt (by omega)]; rfl
  have nn32 : ∀ {q : Nat}, q < 2147483648 → ¬ Int32.ofNat q < 0 := fun {q} hq => by rw [Int32.lt_iff_toInt_lt, Int32.toInt_ofNat_of_lt (by omega), show (0 : Int32).toInt = 0 from rfl]; omega
  have e1 : (Int32.ofNat sp).toNatClampNeg = sp := n32 (by omega)
  have e2 : (Int32.ofNat dp).toNatClampNeg = dp := n32 (by omega)
  have e3 : (Int32.ofNat nn).toNatClampNeg = nn := n32 (by omega)
  have e4 : (Int32.ofNat vs.length).toNatClampNeg = vs.length := n32 hv
  have e5 : (Int32.ofNat vd.length).toNatClampNeg = vd.length := n32 hv'
  obtain ⟨T', h', L', X', e', N', Kp, V, st⟩ := RoadKit.cpA X K.1 K.2.2.2.1 K.2.2.2.2.1 w1 w2 w3 w4 eT (sp := Int32.ofNat sp) (dp := Int32.ofNat dp) (nn := Int32.ofNat nn) (us := (vs.drop sp).take nn) (Ha.arv hca hv .null) (Hb.arv hcb hv' .null) (Or.inl ⟨rfl, hty⟩)
    (nn32 (by omega)) (nn32 (by omega)) (nn32 (by omega)) (by rw [e1, e3, e4]; exact h4) (by rw [e2, e3, e5]; exact h5) (by rw [e1, e3]; exact (range_take h4).symm) (by rw [e2, e3]; exact h5) N g0 (g := mkF m pc L (.int (Int32.ofNat nn) :: .int (Int32.ofNat dp) :: .ref b :: .int (Int32.ofNat sp) :: .ref a :: S)) rfl (hsz.trans K.2.2.1.symm) rfl (hb K.2.1 hd) hf (by show 2 * 0 + _ ≤ _; rw [Nat.mul_zero, Nat.zero_add]; exact hW) hl
  rw [e2, e3] at V
  have ll : (vd.take dp ++ (vs.drop sp).take nn ++ vd.drop (dp + nn)).length = vd.length := by simp; omega
  obtain ⟨cn, hcn, Hn⟩ := Arv.arC V (by rw [e5, ll])
  have ne := List.pairwise_cons.mp o2
  have O' : Hp h' n0 ((b, ArC Z kb ty (vd.take dp ++ (vs.drop sp).take nn ++ vd.drop (dp + nn))) :: Ls) := by
    refine ⟨Nat.le_trans o1 Kp.1, List.pairwise_cons.mpr ⟨fun q hq => ne.1 q hq, ne.2⟩, fun q hq => ?_⟩
    rcases List.mem_cons.mp hq with rfl | hq
    · exact ⟨g0, cn, hcn, Hn⟩
    · obtain ⟨u1, c2, u2, u3⟩ := o3 q (List.mem_cons_of_mem _ hq)
      exact ⟨u1, c2, Kp.2.1 _ _ u2 (fun z => (ne.1 q hq) (List.mem_singleton.mp z).symm), u3⟩
  obtain ⟨s₂, o, k1, k2⟩ := r h' O' p e s m args below meth c' T' _ K X' e' N'
  exact ⟨s₂, o, st _ k1, k2⟩
theorem Wp.callP {yy y0 : MethodName} {B' : ByteArray} {ml' : Nat} {ret' : Option FieldType} {rm : Room} {Q' : Option Value → Heap → Prop} {index pc' : Nat} {argsL S0 : List Value} {as : Array Value} (M : Met l Z yy B' ml' ret' rm as h n0 Q') (E : Exa Z h a yy.cls)
    (wl : (Jvm.Cond.methodLink my.cls index yy).before a0 Z = true) (wm : (Jvm.Cond.instanceMethod yy).before a0 Z = true) (wp : (Jvm.Cond.privateMethod yy).before a0 Z = true) (wi : (Jvm.Cond.initialized yy.cls).before a0 Z = true) (wc : (Jvm.Cond.code yy B' ml' ret').before a0 Z = true)
    (nf : ∀ s : State, Z.Warmed39 s.vm → NotFace s y0) (wm0 : (Jvm.Cond.instanceMethod y0).before a0 Z = true) (hy0 : y0.cls = yy.cls)
    (hy : yy.cls ≠ "java/lang/invoke/MethodHandle" ∧ yy.cls ≠ "java/lang/invoke/VarHandle") {W : Nat} (hsz : L.size = ml) (hlen : ∀ sig, parseMethodDescriptor yy.desc = some sig → argsL.length = sig.parameters.length) (hst : S0 = argsL.reverse ++ .ref a :: S) (has : (.ref a :: argsL).toArray = as) (hW : (S.map fun v => v.category).sum ≤ W)
    (hf : rm.frames + 1 ≤ R.frames) (hl : W + (ml' + 11) + rm.locals ≤ R.locals) (hc : cells + rm.cells ≤ R.cells) (hs : slots + rm.slots ≤ R.slots) (hd : decode B pc = .ok (.invokevirtual index, 3)) (hp : pc + 3 = pc')
    (r : ∀ v h', Q' v h' → Wp l Z R my B ml ret n0 Q h' (cells + rm.cells) (slots + rm.slots) pc' L (v.toList ++ S)) : Wp l Z R my B ml ret n0 Q h cells slots pc L S0 := by
  intro p e s m args below meth c T locs K X eT N
  subst hp hst
  have hZ := K.2.2.2.1
  obtain ⟨cq, q1, q2⟩ := E.cell
  have hinst : (Jvm.Cond.instanceMethod yy).before args s = true := mvT hZ wm
  have hpriv : s.PrivateAt yy := Cond.privateMethod_at (mvP hZ wp (args := #[]))
  have hsel : (Jvm.Cond.selects yy.cls yy yy).before args s = true := by
    have hi0 : (Jvm.Cond.instanceMethod y0).before args s = true := mvT hZ wm0
    obtain ⟨mk, methM, hnamed, -⟩ := Cond.instanceMethod_spec hi0
    obtain ⟨kr, k1, k2⟩ := nf s hZ mk hnamed
    have fc := findClass_of_methodNamed hnamed
    rw [hy0] at fc
    exact selects_self_of_private fc k1 k2 hpriv hinst hy
  obtain ⟨v, vm₁, ⟨T', L', k', n'⟩, -, X', ⟨Lc, hQ, l', y', z'⟩, st⟩ := X.privateBack K.1 (y := yy) K.2.2.2.2.1 (mvT hZ wl) hinst hsel hpriv (mvT hZ wc) hy (backOf (W := W) (Q := fun v h L => Q' v h ∧ Fr n0 L) (M []) hZ wc wi hf hl) (g := mkF m pc L (argsL.reverse ++ .ref a :: S)) rfl (hsz.trans K.2.2.1.symm) (Steps.refl _) (a := a) (cell := cq) (by rw [eT]; exact q1) q2 (argsL := argsL) (rest := S) hlen rfl (by show 2 * 0 + _ ≤ _; rw [Nat.mul_zero, Nat.zero_add]; exact hW) (hb K.2.1 hd) (fun _ _ => ⟨has, eT, hc, hs⟩)
  dsimp only [Pt.U, Pt.locs, Pt.cells, Pt.slots] at X' l' y' z' st hQ
  subst l' y' z'
  obtain ⟨s₂, o, k1, k2⟩ := r v _ hQ.1 p e s m args below meth c T' _ K X' rfl (Fr.app N hQ.2)
  exact ⟨s₂, o, st.trans k1, k2⟩
end More
end Jvm.OwnKit
namespace Jvm.Pilot.@@N@@
open Jvm Jvm.ClassFile Sem Op Lib Jvm.Free Jvm.Stand Jvm.LawKit Jvm.RoadKit Bundle Jvm.OwnKit Jvm.Pilot.@@N@@.Jvm.D
def own_fill : List Value → List Slot
  | [] => []
  | v :: r => if v.category = 2 then .val v :: .second :: own_fill r else .val v :: own_fill r
theorem own_fold : ∀ (l : List Value) (acc : Array Slot), l.foldl (fun (acc : Array Slot) v => if v.category = 2 then (acc.push (.val v)).push .second else acc.push (.val v)) acc = acc ++ (own_fill l).toArray
  | [], acc => by simp [own_fill]
  | v :: r, acc => by
    rw [List.foldl_cons, own_fold r]
    by_cases h : v.category = 2
    · rw [if_pos h, own_fill, if_pos h]; apply Array.ext'; simp
    · rw [if_neg h, own_fill, if_neg h]; apply Array.ext'; simp
theorem own_atl (as : Array Value) (ml : Nat) : argsToLocals as ml = as.foldl (fun (acc : Array Slot) v => if v.category = 2 then (acc.push (.val v)).push .second else acc.push (.val v)) #[] ++ Array.replicate (ml - (as.foldl (fun (acc : Array Slot) v => if v.category = 2 then (acc.push (.val v)).push .second else acc.push (.val v)) #[]).size) .unset := rfl
theorem own_ef {as : Array Value} {ml : Nat} {L0 : Array Slot} (h : own_fill as.toList ++ List.replicate (ml - (own_fill as.toList).length) .unset = L0.toList) (m : MethodId) : entryFrame m as ml = mkF m 0 L0 [] := by
  have e : argsToLocals as ml = L0 := by
    apply Array.ext'
    rw [own_atl, ← Array.foldl_toList, own_fold, ← h]
    simp
  subst e
  rfl

theorem d0_0 : decode method_3_code 0 = .ok (.iload_n 0, 1) := by decide +kernel
theorem d0_1 : decode method_3_code 1 = .ok (.iload_n 1, 1) := by decide +kernel
theorem d0_2 : decode method_3_code 2 = .ok (.if_icmp .ge 10, 3) := by decide +kernel
theorem d0_5 : decode method_3_code 5 = .ok (.aload_n 3, 1) := by decide +kernel
theorem d0_6 : decode method_3_code 6 = .ok (.iload_n 0, 1) := by decide +kernel
theorem d0_7 : decode method_3_code 7 = .ok (.iaload, 1) := by decide +kernel
theorem d0_8 : decode method_3_code 8 = .ok (.iload_n 2, 1) := by decide +kernel
theorem d0_9 : decode method_3_code 9 = .ok (.if_icmp .eq 5, 3) := by decide +kernel
theorem d0_12 : decode method_3_code 12 = .ok (.iconst 0, 1) := by decide +kernel
theorem d0_13 : decode method_3_code 13 = .ok (.ireturn, 1) := by decide +kernel
theorem d0_14 : decode method_3_code 14 = .ok (.iconst 0, 1) := by decide +kernel
theorem d0_15 : decode method_3_code 15 = .ok (.iload_n 0, 1) := by decide +kernel
theorem d0_16 : decode method_3_code 16 = .ok (.aload_n 3, 1) := by decide +kernel
theorem d0_17 : decode method_3_code 17 = .ok (.aload 4, 2) := by decide +kernel
theorem d0_19 : decode method_3_code 19 = .ok (.invokestatic 7, 3) := by decide +kernel
theorem d0_22 : decode method_3_code 22 = .ok (.ifCond .ne 25, 3) := by decide +kernel
theorem d0_25 : decode method_3_code 25 = .ok (.iconst 1, 1) := by decide +kernel
theorem d0_26 : decode method_3_code 26 = .ok (.iload_n 0, 1) := by decide +kernel
theorem d0_27 : decode method_3_code 27 = .ok (.aload_n 3, 1) := by decide +kernel
theorem d0_28 : decode method_3_code 28 = .ok (.aload 4, 2) := by decide +kernel
theorem d0_30 : decode method_3_code 30 = .ok (.invokestatic 7, 3) := by decide +kernel
theorem d0_33 : decode method_3_code 33 = .ok (.ifCond .ne 14, 3) := by decide +kernel
theorem d0_36 : decode method_3_code 36 = .ok (.iconst 2, 1) := by decide +kernel
theorem d0_37 : decode method_3_code 37 = .ok (.iload_n 0, 1) := by decide +kernel
theorem d0_38 : decode method_3_code 38 = .ok (.aload_n 3, 1) := by decide +kernel
theorem d0_39 : decode method_3_code 39 = .ok (.aload 4, 2) := by decide +kernel
theorem d0_41 : decode method_3_code 41 = .ok (.invokestatic 7, 3) := by decide +kernel
theorem d0_44 : decode method_3_code 44 = .ok (.ifCond .eq 5, 3) := by decide +kernel
theorem d0_47 : decode method_3_code 47 = .ok (.iconst 0, 1) := by decide +kernel
theorem d0_48 : decode method_3_code 48 = .ok (.ireturn, 1) := by decide +kernel
theorem d0_49 : decode method_3_code 49 = .ok (.iconst 1, 1) := by decide +kernel
theorem d0_50 : decode method_3_code 50 = .ok (.ireturn, 1) := by decide +kernel
theorem d1_0 : decode method_4_code 0 = .ok (.iload_n 1, 1) := by decide +kernel
theorem d1_1 : decode method_4_code 1 = .ok (.newarray .int, 2) := by decide +kernel
theorem d1_3 : decode method_4_code 3 = .ok (.astore_n 2, 1) := by decide +kernel
theorem d1_4 : decode method_4_code 4 = .ok (.iload_n 1, 1) := by decide +kernel
theorem d1_5 : decode method_4_code 5 = .ok (.ifCond .le 9, 3) := by decide +kernel
theorem d1_8 : decode method_4_code 8 = .ok (.aload_n 2, 1) := by decide +kernel
theorem d1_9 : decode method_4_code 9 = .ok (.iconst 0, 1) := by decide +kernel
theorem d1_10 : decode method_4_code 10 = .ok (.aload_n 0, 1) := by decide +kernel
theorem d1_11 : decode method_4_code 11 = .ok (.iconst 0, 1) := by decide +kernel
theorem d1_12 : decode method_4_code 12 = .ok (.iaload, 1) := by decide +kernel
theorem d1_13 : decode method_4_code 13 = .ok (.iastore, 1) := by decide +kernel
theorem d1_14 : decode method_4_code 14 = .ok (.iload_n 1, 1) := by decide +kernel
theorem d1_15 : decode method_4_code 15 = .ok (.iconst 1, 1) := by decide +kernel
theorem d1_16 : decode method_4_code 16 = .ok (.if_icmp .le 9, 3) := by decide +kernel
theorem d1_19 : decode method_4_code 19 = .ok (.aload_n 2, 1) := by decide +kernel
theorem d1_20 : decode method_4_code 20 = .ok (.iconst 1, 1) := by decide +kernel
theorem d1_21 : decode method_4_code 21 = .ok (.aload_n 0, 1) := by decide +kernel
theorem d1_22 : decode method_4_code 22 = .ok (.iconst 1, 1) := by decide +kernel
theorem d1_23 : decode method_4_code 23 = .ok (.iaload, 1) := by decide +kernel
theorem d1_24 : decode method_4_code 24 = .ok (.iastore, 1) := by decide +kernel
theorem d1_25 : decode method_4_code 25 = .ok (.iload_n 1, 1) := by decide +kernel
theorem d1_26 : decode method_4_code 26 = .ok (.iconst 2, 1) := by decide +kernel
theorem d1_27 : decode method_4_code 27 = .ok (.if_icmp .le 9, 3) := by decide +kernel
theorem d1_30 : decode method_4_code 30 = .ok (.aload_n 2, 1) := by decide +kernel
theorem d1_31 : decode method_4_code 31 = .ok (.iconst 2, 1) := by decide +kernel
theorem d1_32 : decode method_4_code 32 = .ok (.aload_n 0, 1) := by decide +kernel
theorem d1_33 : decode method_4_code 33 = .ok (.iconst 2, 1) := by decide +kernel
theorem d1_34 : decode method_4_code 34 = .ok (.iaload, 1) := by decide +kernel
theorem d1_35 : decode method_4_code 35 = .ok (.iastore, 1) := by decide +kernel
theorem d1_36 : decode method_4_code 36 = .ok (.iload_n 1, 1) := by decide +kernel
theorem d1_37 : decode method_4_code 37 = .ok (.iconst 3, 1) := by decide +kernel
theorem d1_38 : decode method_4_code 38 = .ok (.if_icmp .le 9, 3) := by decide +kernel
theorem d1_41 : decode method_4_code 41 = .ok (.aload_n 2, 1) := by decide +kernel
theorem d1_42 : decode method_4_code 42 = .ok (.iconst 3, 1) := by decide +kernel
theorem d1_43 : decode method_4_code 43 = .ok (.aload_n 0, 1) := by decide +kernel
theorem d1_44 : decode method_4_code 44 = .ok (.iconst 3, 1) := by decide +kernel
theorem d1_45 : decode method_4_code 45 = .ok (.iaload, 1) := by decide +kernel
theorem d1_46 : decode method_4_code 46 = .ok (.iastore, 1) := by decide +kernel
theorem d1_47 : decode method_4_code 47 = .ok (.aload_n 2, 1) := by decide +kernel
theorem d1_48 : decode method_4_code 48 = .ok (.areturn, 1) := by decide +kernel
theorem d2_0 : decode prog_48_method_2_code 0 = .ok (.iload_n 0, 1) := by decide +kernel
theorem d2_1 : decode prog_48_method_2_code 1 = .ok (.ifCond .ge 17, 3) := by decide +kernel
theorem d2_18 : decode prog_48_method_2_code 18 = .ok (.aload_n 1, 1) := by decide +kernel
theorem d2_19 : decode prog_48_method_2_code 19 = .ok (.arraylength, 1) := by decide +kernel
theorem d2_20 : decode prog_48_method_2_code 20 = .ok (.aload_n 2, 1) := by decide +kernel
theorem d2_21 : decode prog_48_method_2_code 21 = .ok (.arraylength, 1) := by decide +kernel
theorem d2_22 : decode prog_48_method_2_code 22 = .ok (.if_icmp .eq 20, 3) := by decide +kernel
theorem d2_42 : decode prog_48_method_2_code 42 = .ok (.iconst 0, 1) := by decide +kernel
theorem d2_43 : decode prog_48_method_2_code 43 = .ok (.istore_n 3, 1) := by decide +kernel
theorem d2_44 : decode prog_48_method_2_code 44 = .ok (.iload_n 3, 1) := by decide +kernel
theorem d2_45 : decode prog_48_method_2_code 45 = .ok (.aload_n 1, 1) := by decide +kernel
theorem d2_46 : decode prog_48_method_2_code 46 = .ok (.arraylength, 1) := by decide +kernel
theorem d2_47 : decode prog_48_method_2_code 47 = .ok (.if_icmp .ge 58, 3) := by decide +kernel
theorem d2_50 : decode prog_48_method_2_code 50 = .ok (.aload_n 1, 1) := by decide +kernel
theorem d2_51 : decode prog_48_method_2_code 51 = .ok (.iload_n 3, 1) := by decide +kernel
theorem d2_52 : decode prog_48_method_2_code 52 = .ok (.iaload, 1) := by decide +kernel
theorem d2_53 : decode prog_48_method_2_code 53 = .ok (.ifCond .lt 23, 3) := by decide +kernel
theorem d2_56 : decode prog_48_method_2_code 56 = .ok (.aload_n 1, 1) := by decide +kernel
theorem d2_57 : decode prog_48_method_2_code 57 = .ok (.iload_n 3, 1) := by decide +kernel
theorem d2_58 : decode prog_48_method_2_code 58 = .ok (.iaload, 1) := by decide +kernel
theorem d2_59 : decode prog_48_method_2_code 59 = .ok (.iload_n 0, 1) := by decide +kernel
theorem d2_60 : decode prog_48_method_2_code 60 = .ok (.if_icmp .ge 16, 3) := by decide +kernel
theorem d2_63 : decode prog_48_method_2_code 63 = .ok (.aload_n 2, 1) := by decide +kernel
theorem d2_64 : decode prog_48_method_2_code 64 = .ok (.iload_n 3, 1) := by decide +kernel
theorem d2_65 : decode prog_48_method_2_code 65 = .ok (.iaload, 1) := by decide +kernel
theorem d2_66 : decode prog_48_method_2_code 66 = .ok (.ifCond .lt 10, 3) := by decide +kernel
theorem d2_69 : decode prog_48_method_2_code 69 = .ok (.aload_n 2, 1) := by decide +kernel
theorem d2_70 : decode prog_48_method_2_code 70 = .ok (.iload_n 3, 1) := by decide +kernel
theorem d2_71 : decode prog_48_method_2_code 71 = .ok (.iaload, 1) := by decide +kernel
theorem d2_72 : decode prog_48_method_2_code 72 = .ok (.iload_n 0, 1) := by decide +kernel
theorem d2_73 : decode prog_48_method_2_code 73 = .ok (.if_icmp .lt 26, 3) := by decide +kernel
theorem d2_99 : decode prog_48_method_2_code 99 = .ok (.iinc 3 1, 3) := by decide +kernel
theorem d2_102 : decode prog_48_method_2_code 102 = .ok (.goto (-58), 3) := by decide +kernel
theorem d2_105 : decode prog_48_method_2_code 105 = .ok (.iload_n 0, 1) := by decide +kernel
theorem d2_106 : decode prog_48_method_2_code 106 = .ok (.iconst 1, 1) := by decide +kernel
theorem d2_107 : decode prog_48_method_2_code 107 = .ok (.iadd, 1) := by decide +kernel
theorem d2_108 : decode prog_48_method_2_code 108 = .ok (.newarray .int, 2) := by decide +kernel
theorem d2_110 : decode prog_48_method_2_code 110 = .ok (.astore_n 3, 1) := by decide +kernel
theorem d2_111 : decode prog_48_method_2_code 111 = .ok (.aload_n 1, 1) := by decide +kernel
theorem d2_112 : decode prog_48_method_2_code 112 = .ok (.astore 4, 2) := by decide +kernel
theorem d2_114 : decode prog_48_method_2_code 114 = .ok (.aload 4, 2) := by decide +kernel
theorem d2_116 : decode prog_48_method_2_code 116 = .ok (.arraylength, 1) := by decide +kernel
theorem d2_117 : decode prog_48_method_2_code 117 = .ok (.istore 5, 2) := by decide +kernel
theorem d2_119 : decode prog_48_method_2_code 119 = .ok (.iconst 0, 1) := by decide +kernel
theorem d2_120 : decode prog_48_method_2_code 120 = .ok (.istore 6, 2) := by decide +kernel
theorem d2_122 : decode prog_48_method_2_code 122 = .ok (.iload 6, 2) := by decide +kernel
theorem d2_124 : decode prog_48_method_2_code 124 = .ok (.iload 5, 2) := by decide +kernel
theorem d2_126 : decode prog_48_method_2_code 126 = .ok (.if_icmp .ge 26, 3) := by decide +kernel
theorem d2_129 : decode prog_48_method_2_code 129 = .ok (.aload 4, 2) := by decide +kernel
theorem d2_131 : decode prog_48_method_2_code 131 = .ok (.iload 6, 2) := by decide +kernel
theorem d2_133 : decode prog_48_method_2_code 133 = .ok (.iaload, 1) := by decide +kernel
theorem d2_134 : decode prog_48_method_2_code 134 = .ok (.istore 7, 2) := by decide +kernel
theorem d2_136 : decode prog_48_method_2_code 136 = .ok (.aload_n 3, 1) := by decide +kernel
theorem d2_137 : decode prog_48_method_2_code 137 = .ok (.iload 7, 2) := by decide +kernel
theorem d2_139 : decode prog_48_method_2_code 139 = .ok (.iconst 1, 1) := by decide +kernel
theorem d2_140 : decode prog_48_method_2_code 140 = .ok (.iadd, 1) := by decide +kernel
theorem d2_141 : decode prog_48_method_2_code 141 = .ok (.dup2, 1) := by decide +kernel
theorem d2_142 : decode prog_48_method_2_code 142 = .ok (.iaload, 1) := by decide +kernel
theorem d2_143 : decode prog_48_method_2_code 143 = .ok (.iconst 1, 1) := by decide +kernel
theorem d2_144 : decode prog_48_method_2_code 144 = .ok (.iadd, 1) := by decide +kernel
theorem d2_145 : decode prog_48_method_2_code 145 = .ok (.iastore, 1) := by decide +kernel
theorem d2_146 : decode prog_48_method_2_code 146 = .ok (.iinc 6 1, 3) := by decide +kernel
theorem d2_149 : decode prog_48_method_2_code 149 = .ok (.goto (-27), 3) := by decide +kernel
theorem d2_152 : decode prog_48_method_2_code 152 = .ok (.iconst 0, 1) := by decide +kernel
theorem d2_153 : decode prog_48_method_2_code 153 = .ok (.istore 4, 2) := by decide +kernel
theorem d2_155 : decode prog_48_method_2_code 155 = .ok (.iload 4, 2) := by decide +kernel
theorem d2_157 : decode prog_48_method_2_code 157 = .ok (.iload_n 0, 1) := by decide +kernel
theorem d2_158 : decode prog_48_method_2_code 158 = .ok (.if_icmp .ge 22, 3) := by decide +kernel
theorem d2_161 : decode prog_48_method_2_code 161 = .ok (.aload_n 3, 1) := by decide +kernel
theorem d2_162 : decode prog_48_method_2_code 162 = .ok (.iload 4, 2) := by decide +kernel
theorem d2_164 : decode prog_48_method_2_code 164 = .ok (.iconst 1, 1) := by decide +kernel
theorem d2_165 : decode prog_48_method_2_code 165 = .ok (.iadd, 1) := by decide +kernel
theorem d2_166 : decode prog_48_method_2_code 166 = .ok (.dup2, 1) := by decide +kernel
theorem d2_167 : decode prog_48_method_2_code 167 = .ok (.iaload, 1) := by decide +kernel
theorem d2_168 : decode prog_48_method_2_code 168 = .ok (.aload_n 3, 1) := by decide +kernel
theorem d2_169 : decode prog_48_method_2_code 169 = .ok (.iload 4, 2) := by decide +kernel
theorem d2_171 : decode prog_48_method_2_code 171 = .ok (.iaload, 1) := by decide +kernel
theorem d2_172 : decode prog_48_method_2_code 172 = .ok (.iadd, 1) := by decide +kernel
theorem d2_173 : decode prog_48_method_2_code 173 = .ok (.iastore, 1) := by decide +kernel
theorem d2_174 : decode prog_48_method_2_code 174 = .ok (.iinc 4 1, 3) := by decide +kernel
theorem d2_177 : decode prog_48_method_2_code 177 = .ok (.goto (-22), 3) := by decide +kernel
theorem d2_180 : decode prog_48_method_2_code 180 = .ok (.aload_n 3, 1) := by decide +kernel
theorem d2_181 : decode prog_48_method_2_code 181 = .ok (.iload_n 0, 1) := by decide +kernel
theorem d2_182 : decode prog_48_method_2_code 182 = .ok (.invokestatic 31, 3) := by decide +kernel
theorem d2_185 : decode prog_48_method_2_code 185 = .ok (.astore 4, 2) := by decide +kernel
theorem d2_187 : decode prog_48_method_2_code 187 = .ok (.aload_n 1, 1) := by decide +kernel
theorem d2_188 : decode prog_48_method_2_code 188 = .ok (.arraylength, 1) := by decide +kernel
theorem d2_189 : decode prog_48_method_2_code 189 = .ok (.newarray .int, 2) := by decide +kernel
theorem d2_191 : decode prog_48_method_2_code 191 = .ok (.astore 5, 2) := by decide +kernel
theorem d2_193 : decode prog_48_method_2_code 193 = .ok (.iconst 0, 1) := by decide +kernel
theorem d2_194 : decode prog_48_method_2_code 194 = .ok (.istore 6, 2) := by decide +kernel
theorem d2_196 : decode prog_48_method_2_code 196 = .ok (.iload 6, 2) := by decide +kernel
theorem d2_198 : decode prog_48_method_2_code 198 = .ok (.aload_n 1, 1) := by decide +kernel
theorem d2_199 : decode prog_48_method_2_code 199 = .ok (.arraylength, 1) := by decide +kernel
theorem d2_200 : decode prog_48_method_2_code 200 = .ok (.if_icmp .ge 28, 3) := by decide +kernel
theorem d2_203 : decode prog_48_method_2_code 203 = .ok (.aload 5, 2) := by decide +kernel
theorem d2_205 : decode prog_48_method_2_code 205 = .ok (.aload 4, 2) := by decide +kernel
theorem d2_207 : decode prog_48_method_2_code 207 = .ok (.aload_n 1, 1) := by decide +kernel
theorem d2_208 : decode prog_48_method_2_code 208 = .ok (.iload 6, 2) := by decide +kernel
theorem d2_210 : decode prog_48_method_2_code 210 = .ok (.iaload, 1) := by decide +kernel
theorem d2_211 : decode prog_48_method_2_code 211 = .ok (.dup2, 1) := by decide +kernel
theorem d2_212 : decode prog_48_method_2_code 212 = .ok (.iaload, 1) := by decide +kernel
theorem d2_213 : decode prog_48_method_2_code 213 = .ok (.dup_x2, 1) := by decide +kernel
theorem d2_214 : decode prog_48_method_2_code 214 = .ok (.iconst 1, 1) := by decide +kernel
theorem d2_215 : decode prog_48_method_2_code 215 = .ok (.iadd, 1) := by decide +kernel
theorem d2_216 : decode prog_48_method_2_code 216 = .ok (.iastore, 1) := by decide +kernel
theorem d2_217 : decode prog_48_method_2_code 217 = .ok (.aload_n 2, 1) := by decide +kernel
theorem d2_218 : decode prog_48_method_2_code 218 = .ok (.iload 6, 2) := by decide +kernel
theorem d2_220 : decode prog_48_method_2_code 220 = .ok (.iaload, 1) := by decide +kernel
theorem d2_221 : decode prog_48_method_2_code 221 = .ok (.iastore, 1) := by decide +kernel
theorem d2_222 : decode prog_48_method_2_code 222 = .ok (.iinc 6 1, 3) := by decide +kernel
theorem d2_225 : decode prog_48_method_2_code 225 = .ok (.goto (-29), 3) := by decide +kernel
theorem d2_228 : decode prog_48_method_2_code 228 = .ok (.iconst 0, 1) := by decide +kernel
theorem d2_229 : decode prog_48_method_2_code 229 = .ok (.istore 6, 2) := by decide +kernel
theorem d2_231 : decode prog_48_method_2_code 231 = .ok (.iconst 0, 1) := by decide +kernel
theorem d2_232 : decode prog_48_method_2_code 232 = .ok (.istore 7, 2) := by decide +kernel
theorem d2_234 : decode prog_48_method_2_code 234 = .ok (.iload 7, 2) := by decide +kernel
theorem d2_236 : decode prog_48_method_2_code 236 = .ok (.iload_n 0, 1) := by decide +kernel
theorem d2_237 : decode prog_48_method_2_code 237 = .ok (.if_icmp .ge 90, 3) := by decide +kernel
theorem d2_240 : decode prog_48_method_2_code 240 = .ok (.aload_n 3, 1) := by decide +kernel
theorem d2_241 : decode prog_48_method_2_code 241 = .ok (.iload 7, 2) := by decide +kernel
theorem d2_243 : decode prog_48_method_2_code 243 = .ok (.iaload, 1) := by decide +kernel
theorem d2_244 : decode prog_48_method_2_code 244 = .ok (.istore 8, 2) := by decide +kernel
theorem d2_246 : decode prog_48_method_2_code 246 = .ok (.aload_n 3, 1) := by decide +kernel
theorem d2_247 : decode prog_48_method_2_code 247 = .ok (.iload 7, 2) := by decide +kernel
theorem d2_249 : decode prog_48_method_2_code 249 = .ok (.iconst 1, 1) := by decide +kernel
theorem d2_250 : decode prog_48_method_2_code 250 = .ok (.iadd, 1) := by decide +kernel
theorem d2_251 : decode prog_48_method_2_code 251 = .ok (.iaload, 1) := by decide +kernel
theorem d2_252 : decode prog_48_method_2_code 252 = .ok (.istore 9, 2) := by decide +kernel
theorem d2_254 : decode prog_48_method_2_code 254 = .ok (.aload 5, 2) := by decide +kernel
theorem d2_256 : decode prog_48_method_2_code 256 = .ok (.iload 8, 2) := by decide +kernel
theorem d2_258 : decode prog_48_method_2_code 258 = .ok (.iload 9, 2) := by decide +kernel
theorem d2_260 : decode prog_48_method_2_code 260 = .ok (.invokestatic 37, 3) := by decide +kernel
theorem d2_263 : decode prog_48_method_2_code 263 = .ok (.aload_n 3, 1) := by decide +kernel
theorem d2_264 : decode prog_48_method_2_code 264 = .ok (.iload 7, 2) := by decide +kernel
theorem d2_266 : decode prog_48_method_2_code 266 = .ok (.iload 6, 2) := by decide +kernel
theorem d2_268 : decode prog_48_method_2_code 268 = .ok (.iastore, 1) := by decide +kernel
theorem d2_269 : decode prog_48_method_2_code 269 = .ok (.iload 8, 2) := by decide +kernel
theorem d2_271 : decode prog_48_method_2_code 271 = .ok (.istore 10, 2) := by decide +kernel
theorem d2_273 : decode prog_48_method_2_code 273 = .ok (.iload 10, 2) := by decide +kernel
theorem d2_275 : decode prog_48_method_2_code 275 = .ok (.iload 9, 2) := by decide +kernel
theorem d2_277 : decode prog_48_method_2_code 277 = .ok (.if_icmp .ge 44, 3) := by decide +kernel
theorem d2_280 : decode prog_48_method_2_code 280 = .ok (.iload 10, 2) := by decide +kernel
theorem d2_282 : decode prog_48_method_2_code 282 = .ok (.iload 8, 2) := by decide +kernel
theorem d2_284 : decode prog_48_method_2_code 284 = .ok (.if_icmp .eq 18, 3) := by decide +kernel
theorem d2_287 : decode prog_48_method_2_code 287 = .ok (.aload 5, 2) := by decide +kernel
theorem d2_289 : decode prog_48_method_2_code 289 = .ok (.iload 10, 2) := by decide +kernel
theorem d2_291 : decode prog_48_method_2_code 291 = .ok (.iaload, 1) := by decide +kernel
theorem d2_292 : decode prog_48_method_2_code 292 = .ok (.aload 5, 2) := by decide +kernel
theorem d2_294 : decode prog_48_method_2_code 294 = .ok (.iload 6, 2) := by decide +kernel
theorem d2_296 : decode prog_48_method_2_code 296 = .ok (.iconst 1, 1) := by decide +kernel
theorem d2_297 : decode prog_48_method_2_code 297 = .ok (.isub, 1) := by decide +kernel
theorem d2_298 : decode prog_48_method_2_code 298 = .ok (.iaload, 1) := by decide +kernel
theorem d2_299 : decode prog_48_method_2_code 299 = .ok (.if_icmp .eq 16, 3) := by decide +kernel
theorem d2_302 : decode prog_48_method_2_code 302 = .ok (.aload 5, 2) := by decide +kernel
theorem d2_304 : decode prog_48_method_2_code 304 = .ok (.iload 6, 2) := by decide +kernel
theorem d2_306 : decode prog_48_method_2_code 306 = .ok (.iinc 6 1, 3) := by decide +kernel
theorem d2_309 : decode prog_48_method_2_code 309 = .ok (.aload 5, 2) := by decide +kernel
theorem d2_311 : decode prog_48_method_2_code 311 = .ok (.iload 10, 2) := by decide +kernel
theorem d2_313 : decode prog_48_method_2_code 313 = .ok (.iaload, 1) := by decide +kernel
theorem d2_314 : decode prog_48_method_2_code 314 = .ok (.iastore, 1) := by decide +kernel
theorem d2_315 : decode prog_48_method_2_code 315 = .ok (.iinc 10 1, 3) := by decide +kernel
theorem d2_318 : decode prog_48_method_2_code 318 = .ok (.goto (-45), 3) := by decide +kernel
theorem d2_321 : decode prog_48_method_2_code 321 = .ok (.iinc 7 1, 3) := by decide +kernel
theorem d2_324 : decode prog_48_method_2_code 324 = .ok (.goto (-90), 3) := by decide +kernel
theorem d2_327 : decode prog_48_method_2_code 327 = .ok (.aload_n 3, 1) := by decide +kernel
theorem d2_328 : decode prog_48_method_2_code 328 = .ok (.iload_n 0, 1) := by decide +kernel
theorem d2_329 : decode prog_48_method_2_code 329 = .ok (.iload 6, 2) := by decide +kernel
theorem d2_331 : decode prog_48_method_2_code 331 = .ok (.iastore, 1) := by decide +kernel
theorem d2_332 : decode prog_48_method_2_code 332 = .ok (.new 8, 3) := by decide +kernel
theorem d2_335 : decode prog_48_method_2_code 335 = .ok (.dup, 1) := by decide +kernel
theorem d2_336 : decode prog_48_method_2_code 336 = .ok (.aload_n 3, 1) := by decide +kernel
theorem d2_337 : decode prog_48_method_2_code 337 = .ok (.aload 5, 2) := by decide +kernel
theorem d2_339 : decode prog_48_method_2_code 339 = .ok (.iload 6, 2) := by decide +kernel
theorem d2_341 : decode prog_48_method_2_code 341 = .ok (.invokestatic 31, 3) := by decide +kernel
theorem d2_344 : decode prog_48_method_2_code 344 = .ok (.invokespecial 41, 3) := by decide +kernel
theorem d2_347 : decode prog_48_method_2_code 347 = .ok (.areturn, 1) := by decide +kernel
theorem d3_0 : decode jdk_65_method_123_code 0 = .ok (.iload_n 1, 1) := by decide +kernel
theorem d3_1 : decode jdk_65_method_123_code 1 = .ok (.aload_n 0, 1) := by decide +kernel
theorem d3_2 : decode jdk_65_method_123_code 2 = .ok (.arraylength, 1) := by decide +kernel
theorem d3_3 : decode jdk_65_method_123_code 3 = .ok (.if_icmp .ne 11, 3) := by decide +kernel
theorem d3_6 : decode jdk_65_method_123_code 6 = .ok (.aload_n 0, 1) := by decide +kernel
theorem d3_7 : decode jdk_65_method_123_code 7 = .ok (.invokevirtual 316, 3) := by decide +kernel
theorem d3_10 : decode jdk_65_method_123_code 10 = .ok (.checkcast 317, 3) := by decide +kernel
theorem d3_13 : decode jdk_65_method_123_code 13 = .ok (.areturn, 1) := by decide +kernel
theorem d3_14 : decode jdk_65_method_123_code 14 = .ok (.iload_n 1, 1) := by decide +kernel
theorem d3_15 : decode jdk_65_method_123_code 15 = .ok (.newarray .int, 2) := by decide +kernel
theorem d3_17 : decode jdk_65_method_123_code 17 = .ok (.astore_n 2, 1) := by decide +kernel
theorem d3_18 : decode jdk_65_method_123_code 18 = .ok (.aload_n 0, 1) := by decide +kernel
theorem d3_19 : decode jdk_65_method_123_code 19 = .ok (.iconst 0, 1) := by decide +kernel
theorem d3_20 : decode jdk_65_method_123_code 20 = .ok (.aload_n 2, 1) := by decide +kernel
theorem d3_21 : decode jdk_65_method_123_code 21 = .ok (.iconst 0, 1) := by decide +kernel
theorem d3_22 : decode jdk_65_method_123_code 22 = .ok (.aload_n 0, 1) := by decide +kernel
theorem d3_23 : decode jdk_65_method_123_code 23 = .ok (.arraylength, 1) := by decide +kernel
theorem d3_24 : decode jdk_65_method_123_code 24 = .ok (.iload_n 1, 1) := by decide +kernel
theorem d3_25 : decode jdk_65_method_123_code 25 = .ok (.invokestatic 304, 3) := by decide +kernel
theorem d3_28 : decode jdk_65_method_123_code 28 = .ok (.invokestatic 150, 3) := by decide +kernel
theorem d3_31 : decode jdk_65_method_123_code 31 = .ok (.aload_n 2, 1) := by decide +kernel
theorem d3_32 : decode jdk_65_method_123_code 32 = .ok (.areturn, 1) := by decide +kernel
theorem d4_0 : decode jdk_29_method_69_code 0 = .ok (.iload_n 0, 1) := by decide +kernel
theorem d4_1 : decode jdk_29_method_69_code 1 = .ok (.iload_n 1, 1) := by decide +kernel
theorem d4_2 : decode jdk_29_method_69_code 2 = .ok (.if_icmp .gt 7, 3) := by decide +kernel
theorem d4_5 : decode jdk_29_method_69_code 5 = .ok (.iload_n 0, 1) := by decide +kernel
theorem d4_6 : decode jdk_29_method_69_code 6 = .ok (.goto 4, 3) := by decide +kernel
theorem d4_9 : decode jdk_29_method_69_code 9 = .ok (.iload_n 1, 1) := by decide +kernel
theorem d4_10 : decode jdk_29_method_69_code 10 = .ok (.ireturn, 1) := by decide +kernel
theorem d5_0 : decode jdk_65_method_3_code 0 = .ok (.aload_n 0, 1) := by decide +kernel
theorem d5_1 : decode jdk_65_method_3_code 1 = .ok (.arraylength, 1) := by decide +kernel
theorem d5_2 : decode jdk_65_method_3_code 2 = .ok (.iload_n 1, 1) := by decide +kernel
theorem d5_3 : decode jdk_65_method_3_code 3 = .ok (.iload_n 2, 1) := by decide +kernel
theorem d5_4 : decode jdk_65_method_3_code 4 = .ok (.invokestatic 13, 3) := by decide +kernel
theorem d5_7 : decode jdk_65_method_3_code 7 = .ok (.aload_n 0, 1) := by decide +kernel
theorem d5_8 : decode jdk_65_method_3_code 8 = .ok (.iconst 0, 1) := by decide +kernel
theorem d5_9 : decode jdk_65_method_3_code 9 = .ok (.iload_n 1, 1) := by decide +kernel
theorem d5_10 : decode jdk_65_method_3_code 10 = .ok (.iload_n 2, 1) := by decide +kernel
theorem d5_11 : decode jdk_65_method_3_code 11 = .ok (.invokestatic 7, 3) := by decide +kernel
theorem d5_14 : decode jdk_65_method_3_code 14 = .ok (.return_, 1) := by decide +kernel
theorem d6_0 : decode jdk_65_method_30_code 0 = .ok (.iload_n 1, 1) := by decide +kernel
theorem d6_1 : decode jdk_65_method_30_code 1 = .ok (.iload_n 2, 1) := by decide +kernel
theorem d6_2 : decode jdk_65_method_30_code 2 = .ok (.if_icmp .le 44, 3) := by decide +kernel
theorem d6_46 : decode jdk_65_method_30_code 46 = .ok (.iload_n 1, 1) := by decide +kernel
theorem d6_47 : decode jdk_65_method_30_code 47 = .ok (.ifCond .ge 12, 3) := by decide +kernel
theorem d6_59 : decode jdk_65_method_30_code 59 = .ok (.iload_n 2, 1) := by decide +kernel
theorem d6_60 : decode jdk_65_method_30_code 60 = .ok (.iload_n 0, 1) := by decide +kernel
theorem d6_61 : decode jdk_65_method_30_code 61 = .ok (.if_icmp .le 12, 3) := by decide +kernel
theorem d6_73 : decode jdk_65_method_30_code 73 = .ok (.return_, 1) := by decide +kernel
theorem d7_0 : decode jdk_2529_method_3_code 0 = .ok (.iload_n 3, 1) := by decide +kernel
theorem d7_1 : decode jdk_2529_method_3_code 1 = .ok (.iload_n 2, 1) := by decide +kernel
theorem d7_2 : decode jdk_2529_method_3_code 2 = .ok (.isub, 1) := by decide +kernel
theorem d7_3 : decode jdk_2529_method_3_code 3 = .ok (.istore 4, 2) := by decide +kernel
theorem d7_5 : decode jdk_2529_method_3_code 5 = .ok (.iload_n 1, 1) := by decide +kernel
theorem d7_6 : decode jdk_2529_method_3_code 6 = .ok (.iconst 1, 1) := by decide +kernel
theorem d7_7 : decode jdk_2529_method_3_code 7 = .ok (.if_icmp .le 61, 3) := by decide +kernel
theorem d7_10 : decode jdk_2529_method_3_code 10 = .ok (.iload 4, 2) := by decide +kernel
theorem d7_12 : decode jdk_2529_method_3_code 12 = .ok (.sipush 4096, 3) := by decide +kernel
theorem d7_15 : decode jdk_2529_method_3_code 15 = .ok (.if_icmp .le 53, 3) := by decide +kernel
theorem d7_68 : decode jdk_2529_method_3_code 68 = .ok (.aconst_null, 1) := by decide +kernel
theorem d7_69 : decode jdk_2529_method_3_code 69 = .ok (.aload_n 0, 1) := by decide +kernel
theorem d7_70 : decode jdk_2529_method_3_code 70 = .ok (.iconst 0, 1) := by decide +kernel
theorem d7_71 : decode jdk_2529_method_3_code 71 = .ok (.iload_n 2, 1) := by decide +kernel
theorem d7_72 : decode jdk_2529_method_3_code 72 = .ok (.iload_n 3, 1) := by decide +kernel
theorem d7_73 : decode jdk_2529_method_3_code 73 = .ok (.invokestatic 26, 3) := by decide +kernel
theorem d7_76 : decode jdk_2529_method_3_code 76 = .ok (.return_, 1) := by decide +kernel
theorem d8_0 : decode jdk_2529_method_4_code 0 = .ok (.iload 4, 2) := by decide +kernel
theorem d8_2 : decode jdk_2529_method_4_code 2 = .ok (.iconst 1, 1) := by decide +kernel
theorem d8_3 : decode jdk_2529_method_4_code 3 = .ok (.isub, 1) := by decide +kernel
theorem d8_4 : decode jdk_2529_method_4_code 4 = .ok (.istore 5, 2) := by decide +kernel
theorem d8_6 : decode jdk_2529_method_4_code 6 = .ok (.iload 4, 2) := by decide +kernel
theorem d8_8 : decode jdk_2529_method_4_code 8 = .ok (.iload_n 3, 1) := by decide +kernel
theorem d8_9 : decode jdk_2529_method_4_code 9 = .ok (.isub, 1) := by decide +kernel
theorem d8_10 : decode jdk_2529_method_4_code 10 = .ok (.istore 6, 2) := by decide +kernel
theorem d8_12 : decode jdk_2529_method_4_code 12 = .ok (.iload 6, 2) := by decide +kernel
theorem d8_14 : decode jdk_2529_method_4_code 14 = .ok (.bipush 65, 2) := by decide +kernel
theorem d8_16 : decode jdk_2529_method_4_code 16 = .ok (.iload_n 2, 1) := by decide +kernel
theorem d8_17 : decode jdk_2529_method_4_code 17 = .ok (.iadd, 1) := by decide +kernel
theorem d8_18 : decode jdk_2529_method_4_code 18 = .ok (.if_icmp .ge 28, 3) := by decide +kernel
theorem d8_21 : decode jdk_2529_method_4_code 21 = .ok (.iload_n 2, 1) := by decide +kernel
theorem d8_22 : decode jdk_2529_method_4_code 22 = .ok (.iconst 1, 1) := by decide +kernel
theorem d8_23 : decode jdk_2529_method_4_code 23 = .ok (.iand, 1) := by decide +kernel
theorem d8_24 : decode jdk_2529_method_4_code 24 = .ok (.ifCond .le 22, 3) := by decide +kernel
theorem d8_27 : decode jdk_2529_method_4_code 27 = .ok (.aload_n 1, 1) := by decide +kernel
theorem d8_28 : decode jdk_2529_method_4_code 28 = .ok (.iload_n 3, 1) := by decide +kernel
theorem d8_29 : decode jdk_2529_method_4_code 29 = .ok (.iload 4, 2) := by decide +kernel
theorem d8_31 : decode jdk_2529_method_4_code 31 = .ok (.iconst 3, 1) := by decide +kernel
theorem d8_32 : decode jdk_2529_method_4_code 32 = .ok (.iload 6, 2) := by decide +kernel
theorem d8_34 : decode jdk_2529_method_4_code 34 = .ok (.iconst 5, 1) := by decide +kernel
theorem d8_35 : decode jdk_2529_method_4_code 35 = .ok (.ishr, 1) := by decide +kernel
theorem d8_36 : decode jdk_2529_method_4_code 36 = .ok (.iconst 3, 1) := by decide +kernel
theorem d8_37 : decode jdk_2529_method_4_code 37 = .ok (.ishl, 1) := by decide +kernel
theorem d8_38 : decode jdk_2529_method_4_code 38 = .ok (.imul, 1) := by decide +kernel
theorem d8_39 : decode jdk_2529_method_4_code 39 = .ok (.isub, 1) := by decide +kernel
theorem d8_40 : decode jdk_2529_method_4_code 40 = .ok (.iload 4, 2) := by decide +kernel
theorem d8_42 : decode jdk_2529_method_4_code 42 = .ok (.invokestatic 30, 3) := by decide +kernel
theorem d8_45 : decode jdk_2529_method_4_code 45 = .ok (.return_, 1) := by decide +kernel
theorem d8_46 : decode jdk_2529_method_4_code 46 = .ok (.iload 6, 2) := by decide +kernel
theorem d8_48 : decode jdk_2529_method_4_code 48 = .ok (.bipush 44, 2) := by decide +kernel
theorem d8_50 : decode jdk_2529_method_4_code 50 = .ok (.if_icmp .ge 11, 3) := by decide +kernel
theorem d8_53 : decode jdk_2529_method_4_code 53 = .ok (.aload_n 1, 1) := by decide +kernel
theorem d8_54 : decode jdk_2529_method_4_code 54 = .ok (.iload_n 3, 1) := by decide +kernel
theorem d8_55 : decode jdk_2529_method_4_code 55 = .ok (.iload 4, 2) := by decide +kernel
theorem d8_57 : decode jdk_2529_method_4_code 57 = .ok (.invokestatic 34, 3) := by decide +kernel
theorem d8_60 : decode jdk_2529_method_4_code 60 = .ok (.return_, 1) := by decide +kernel
theorem d9_0 : decode jdk_2529_method_6_code 0 = .ok (.iload_n 1, 1) := by decide +kernel
theorem d9_1 : decode jdk_2529_method_6_code 1 = .ok (.istore 4, 2) := by decide +kernel
theorem d9_3 : decode jdk_2529_method_6_code 3 = .ok (.iinc 4 1, 3) := by decide +kernel
theorem d9_6 : decode jdk_2529_method_6_code 6 = .ok (.iload 4, 2) := by decide +kernel
theorem d9_8 : decode jdk_2529_method_6_code 8 = .ok (.iload_n 2, 1) := by decide +kernel
theorem d9_9 : decode jdk_2529_method_6_code 9 = .ok (.if_icmp .ge 58, 3) := by decide +kernel
theorem d9_12 : decode jdk_2529_method_6_code 12 = .ok (.aload_n 0, 1) := by decide +kernel
theorem d9_13 : decode jdk_2529_method_6_code 13 = .ok (.iload 4, 2) := by decide +kernel
theorem d9_15 : decode jdk_2529_method_6_code 15 = .ok (.dup, 1) := by decide +kernel
theorem d9_16 : decode jdk_2529_method_6_code 16 = .ok (.istore_n 3, 1) := by decide +kernel
theorem d9_17 : decode jdk_2529_method_6_code 17 = .ok (.iaload, 1) := by decide +kernel
theorem d9_18 : decode jdk_2529_method_6_code 18 = .ok (.istore 5, 2) := by decide +kernel
theorem d9_20 : decode jdk_2529_method_6_code 20 = .ok (.iload 5, 2) := by decide +kernel
theorem d9_22 : decode jdk_2529_method_6_code 22 = .ok (.aload_n 0, 1) := by decide +kernel
theorem d9_23 : decode jdk_2529_method_6_code 23 = .ok (.iload_n 3, 1) := by decide +kernel
theorem d9_24 : decode jdk_2529_method_6_code 24 = .ok (.iconst 1, 1) := by decide +kernel
theorem d9_25 : decode jdk_2529_method_6_code 25 = .ok (.isub, 1) := by decide +kernel
theorem d9_26 : decode jdk_2529_method_6_code 26 = .ok (.iaload, 1) := by decide +kernel
theorem d9_27 : decode jdk_2529_method_6_code 27 = .ok (.if_icmp .ge 37, 3) := by decide +kernel
theorem d9_30 : decode jdk_2529_method_6_code 30 = .ok (.iinc 3 (-1), 3) := by decide +kernel
theorem d9_33 : decode jdk_2529_method_6_code 33 = .ok (.iload_n 3, 1) := by decide +kernel
theorem d9_34 : decode jdk_2529_method_6_code 34 = .ok (.iload_n 1, 1) := by decide +kernel
theorem d9_35 : decode jdk_2529_method_6_code 35 = .ok (.if_icmp .lt 22, 3) := by decide +kernel
theorem d9_38 : decode jdk_2529_method_6_code 38 = .ok (.iload 5, 2) := by decide +kernel
theorem d9_40 : decode jdk_2529_method_6_code 40 = .ok (.aload_n 0, 1) := by decide +kernel
theorem d9_41 : decode jdk_2529_method_6_code 41 = .ok (.iload_n 3, 1) := by decide +kernel
theorem d9_42 : decode jdk_2529_method_6_code 42 = .ok (.iaload, 1) := by decide +kernel
theorem d9_43 : decode jdk_2529_method_6_code 43 = .ok (.if_icmp .ge 14, 3) := by decide +kernel
theorem d9_46 : decode jdk_2529_method_6_code 46 = .ok (.aload_n 0, 1) := by decide +kernel
theorem d9_47 : decode jdk_2529_method_6_code 47 = .ok (.iload_n 3, 1) := by decide +kernel
theorem d9_48 : decode jdk_2529_method_6_code 48 = .ok (.iconst 1, 1) := by decide +kernel
theorem d9_49 : decode jdk_2529_method_6_code 49 = .ok (.iadd, 1) := by decide +kernel
theorem d9_50 : decode jdk_2529_method_6_code 50 = .ok (.aload_n 0, 1) := by decide +kernel
theorem d9_51 : decode jdk_2529_method_6_code 51 = .ok (.iload_n 3, 1) := by decide +kernel
theorem d9_52 : decode jdk_2529_method_6_code 52 = .ok (.iaload, 1) := by decide +kernel
theorem d9_53 : decode jdk_2529_method_6_code 53 = .ok (.iastore, 1) := by decide +kernel
theorem d9_54 : decode jdk_2529_method_6_code 54 = .ok (.goto (-24), 3) := by decide +kernel
theorem d9_57 : decode jdk_2529_method_6_code 57 = .ok (.aload_n 0, 1) := by decide +kernel
theorem d9_58 : decode jdk_2529_method_6_code 58 = .ok (.iload_n 3, 1) := by decide +kernel
theorem d9_59 : decode jdk_2529_method_6_code 59 = .ok (.iconst 1, 1) := by decide +kernel
theorem d9_60 : decode jdk_2529_method_6_code 60 = .ok (.iadd, 1) := by decide +kernel
theorem d9_61 : decode jdk_2529_method_6_code 61 = .ok (.iload 5, 2) := by decide +kernel
theorem d9_63 : decode jdk_2529_method_6_code 63 = .ok (.iastore, 1) := by decide +kernel
theorem d9_64 : decode jdk_2529_method_6_code 64 = .ok (.goto (-61), 3) := by decide +kernel
theorem d9_67 : decode jdk_2529_method_6_code 67 = .ok (.return_, 1) := by decide +kernel
theorem d10_0 : decode prog_48_method_1_code 0 = .ok (.aload_n 0, 1) := by decide +kernel
theorem d10_1 : decode prog_48_method_1_code 1 = .ok (.invokespecial 1, 3) := by decide +kernel
theorem d10_4 : decode prog_48_method_1_code 4 = .ok (.aload_n 0, 1) := by decide +kernel
theorem d10_5 : decode prog_48_method_1_code 5 = .ok (.aload_n 1, 1) := by decide +kernel
theorem d10_6 : decode prog_48_method_1_code 6 = .ok (.putfield 7, 3) := by decide +kernel
theorem d10_9 : decode prog_48_method_1_code 9 = .ok (.aload_n 0, 1) := by decide +kernel
theorem d10_10 : decode prog_48_method_1_code 10 = .ok (.aload_n 2, 1) := by decide +kernel
theorem d10_11 : decode prog_48_method_1_code 11 = .ok (.putfield 13, 3) := by decide +kernel
theorem d10_14 : decode prog_48_method_1_code 14 = .ok (.return_, 1) := by decide +kernel
theorem d12_0 : decode prog_48_method_6_code 0 = .ok (.aload_n 0, 1) := by decide +kernel
theorem d12_1 : decode prog_48_method_6_code 1 = .ok (.getfield 7, 3) := by decide +kernel
theorem d12_4 : decode prog_48_method_6_code 4 = .ok (.iload_n 1, 1) := by decide +kernel
theorem d12_5 : decode prog_48_method_6_code 5 = .ok (.iconst 1, 1) := by decide +kernel
theorem d12_6 : decode prog_48_method_6_code 6 = .ok (.iadd, 1) := by decide +kernel
theorem d12_7 : decode prog_48_method_6_code 7 = .ok (.iaload, 1) := by decide +kernel
theorem d12_8 : decode prog_48_method_6_code 8 = .ok (.aload_n 0, 1) := by decide +kernel
theorem d12_9 : decode prog_48_method_6_code 9 = .ok (.getfield 7, 3) := by decide +kernel
theorem d12_12 : decode prog_48_method_6_code 12 = .ok (.iload_n 1, 1) := by decide +kernel
theorem d12_13 : decode prog_48_method_6_code 13 = .ok (.iaload, 1) := by decide +kernel
theorem d12_14 : decode prog_48_method_6_code 14 = .ok (.isub, 1) := by decide +kernel
theorem d12_15 : decode prog_48_method_6_code 15 = .ok (.ireturn, 1) := by decide +kernel
theorem d13_0 : decode method_2_code 0 = .ok (.iload_n 0, 1) := by decide +kernel
theorem d13_1 : decode method_2_code 1 = .ok (.iload_n 1, 1) := by decide +kernel
theorem d13_2 : decode method_2_code 2 = .ok (.if_icmp .ge 25, 3) := by decide +kernel
theorem d13_5 : decode method_2_code 5 = .ok (.aload_n 2, 1) := by decide +kernel
theorem d13_6 : decode method_2_code 6 = .ok (.iload_n 0, 1) := by decide +kernel
theorem d13_7 : decode method_2_code 7 = .ok (.iaload, 1) := by decide +kernel
theorem d13_8 : decode method_2_code 8 = .ok (.aload_n 2, 1) := by decide +kernel
theorem d13_9 : decode method_2_code 9 = .ok (.iload_n 1, 1) := by decide +kernel
theorem d13_10 : decode method_2_code 10 = .ok (.iaload, 1) := by decide +kernel
theorem d13_11 : decode method_2_code 11 = .ok (.if_icmp .ne 16, 3) := by decide +kernel
theorem d13_14 : decode method_2_code 14 = .ok (.aload_n 3, 1) := by decide +kernel
theorem d13_15 : decode method_2_code 15 = .ok (.iload_n 0, 1) := by decide +kernel
theorem d13_16 : decode method_2_code 16 = .ok (.iaload, 1) := by decide +kernel
theorem d13_17 : decode method_2_code 17 = .ok (.aload_n 3, 1) := by decide +kernel
theorem d13_18 : decode method_2_code 18 = .ok (.iload_n 1, 1) := by decide +kernel
theorem d13_19 : decode method_2_code 19 = .ok (.iaload, 1) := by decide +kernel
theorem d13_20 : decode method_2_code 20 = .ok (.if_icmp .ne 7, 3) := by decide +kernel
theorem d13_23 : decode method_2_code 23 = .ok (.iconst 1, 1) := by decide +kernel
theorem d13_24 : decode method_2_code 24 = .ok (.goto 4, 3) := by decide +kernel
theorem d13_27 : decode method_2_code 27 = .ok (.iconst 0, 1) := by decide +kernel
theorem d13_28 : decode method_2_code 28 = .ok (.ireturn, 1) := by decide +kernel

theorem pn_g : plainName "com/example/frugal_retrieval/frugalretrieval/index/LinkGraph" = true := by first | (simp [plainName, overriddenIn]; done) | decide +kernel
theorem pn_l : plainName "com/example/frugal_retrieval/frugalretrieval/index/LinkGraphOutDegreePinLaw" = true := by first | (simp [plainName, overriddenIn]; done) | decide +kernel
theorem pn_a : plainName "java/util/Arrays" = true := by first | (simp [plainName, overriddenIn]; done) | decide +kernel
theorem own_ofF {l : Launch} {Z : State} {R : Room} {my : MethodName} {B : ByteArray} {ml : Nat} {ret : Option FieldType} {n0 : Nat} {Q : Option Value → Heap → Prop} {h : Heap} {as : Array Value} {L0 : Array Slot} (hpl : plainFor my = true) (ef : ∀ m, entryFrame m as ml = mkF m 0 L0 []) (body : Wp l Z R my B ml ret n0 Q h 0 0 0 L0 []) : Met l Z my B ml ret R as h n0 Q := by
  intro ws
  refine MetFree.of_bodySF hpl hisR ?_
  intro p e s m args below meth c s₁ Bd hml0 hP hK
  obtain ⟨rfl, hZ, hh⟩ := hP
  have X0 := Stand.of_body Bd
  have e0 : s₁.heap = h := by rw [← hh, Bd.state]; rfl
  obtain ⟨s₂, o, k1, k2⟩ := body p e s m _ below meth c s₁ [] ⟨Bd.exec, Bd.bytes, hml0, hZ, findClass_of_methodNamed Bd.named, (name_of_methodNamed Bd.named Bd.method).1, Bd.returns, Bd.notSynchronized⟩ X0 e0 (Fr.nil n0)
  exact ⟨s₂, o, castTop (ef m) k1, k2⟩
theorem pn_q : plainName "java/util/DualPivotQuicksort" = true := by first | (simp [plainName, overriddenIn]; done) | decide +kernel

theorem pd_0 : parseMethodDescriptor "(II)I" = some ⟨[.int, .int], some .int⟩ := by decide +kernel
theorem pd_1 : parseMethodDescriptor "([III)V" = some ⟨[(.array .int), .int, .int], none⟩ := by decide +kernel
theorem pd_2 : parseMethodDescriptor "(Ljava/util/DualPivotQuicksort$Sorter;[IIII)V" = some ⟨[(.object "java/util/DualPivotQuicksort$Sorter"), (.array .int), .int, .int, .int], none⟩ := by decide +kernel
theorem pd_3 : parseMethodDescriptor "(III)V" = some ⟨[.int, .int, .int], none⟩ := by decide +kernel
theorem pd_4 : parseMethodDescriptor "([IIII)V" = some ⟨[(.array .int), .int, .int, .int], none⟩ := by decide +kernel
theorem pd_5 : parseMethodDescriptor "(II[I[I)Z" = some ⟨[.int, .int, (.array .int), (.array .int)], some .boolean⟩ := by decide +kernel
theorem pd_6 : parseMethodDescriptor "([II)[I" = some ⟨[(.array .int), .int], some (.array .int)⟩ := by decide +kernel
theorem pd_7 : parseMethodDescriptor "([I[I)V" = some ⟨[(.array .int), (.array .int)], none⟩ := by decide +kernel
theorem pd_8 : parseMethodDescriptor "(III[I[I)I" = some ⟨[.int, .int, .int, (.array .int), (.array .int)], some .int⟩ := by decide +kernel
theorem pd_9 : parseMethodDescriptor "(I[I[I)Lcom/example/frugal_retrieval/frugalretrieval/index/LinkGraph;" = some ⟨[.int, (.array .int), (.array .int)], some (.object "com/example/frugal_retrieval/frugalretrieval/index/LinkGraph")⟩ := by decide +kernel
theorem pd_10 : parseMethodDescriptor "(I)I" = some ⟨[.int], some .int⟩ := by decide +kernel

/-! small naturals as ints -/
theorem own_lt {i n : Nat} (hi : i < 2147483648) (hn : n < 2147483648) : (Int32.ofNat i < Int32.ofNat n) ↔ i < n := by
  rw [Int32.lt_iff_toInt_lt, Int32.toInt_ofNat_of_lt (by omega), Int32.toInt_ofNat_of_lt (by omega)]
  omega
theorem own_nn {n : Nat} (hn : n < 2147483648) : ¬ Int32.ofNat n < 0 := by
  rw [Int32.lt_iff_toInt_lt, Int32.toInt_ofNat_of_lt (by omega), show (0 : Int32).toInt = 0 from rfl]
  omega
theorem own_n32 {n : Nat} (hn : n < 2147483648) : (Int32.ofNat n).toNatClampNeg = n := by
  rw [Int32.toNatClampNeg, Int32.toInt_ofNat_of_lt (by omega)]; rfl
theorem own_inj {i n : Nat} (hi : i < 2147483648) (hn : n < 2147483648) : (Int32.ofNat i = Int32.ofNat n) ↔ i = n := by
  rw [← Int32.toInt_inj, Int32.toInt_ofNat_of_lt (by omega), Int32.toInt_ofNat_of_lt (by omega)]
  omega
theorem own_add (i j : Nat) : Int32.ofNat i + Int32.ofNat j = Int32.ofNat (i + j) := (Int32.ofNat_add i j).symm
theorem own_sub {i j : Nat} (h : j ≤ i) : Int32.ofNat i - Int32.ofNat j = Int32.ofNat (i - j) := by
  have e : Int32.ofNat i = Int32.ofNat (i - j) + Int32.ofNat j := by rw [own_add]; congr 1; omega
  rw [e, Int32.add_sub_cancel]
theorem own_one (i : Nat) : Int32.ofNat i + (1 : Int32) = Int32.ofNat (i + 1) := (Int32.ofNat_add i 1).symm
theorem own_toInt {n : Nat} (hn : n < 2147483648) : (Int32.ofNat n).toInt = n := Int32.toInt_ofNat_of_lt (by omega)
/-- an int that isn't negative is a natural -/
theorem own_nat {x : Int32} {b : Nat} (h0 : 0 ≤ x.toInt) (hb : x.toInt ≤ b) : ∃ n : Nat, n ≤ b ∧ n < 2147483648 ∧ x = Int32.ofNat n := by
  have := x.toInt_lt
  refine ⟨x.toInt.toNat, by omega, by omega, Int32.toInt_inj.mp ?_⟩
  rw [own_toInt (by omega)]; omega

def own_vals (xs : List Nat) : List Value := xs.map fun x => .int (Int32.ofNat x)
theorem own_vget {xs : List Nat} {i x : Nat} (h : xs[i]? = some x) : (own_vals xs)[i]? = some (.int (Int32.ofNat x)) := by
  unfold own_vals; rw [List.getElem?_map, h]; rfl
theorem own_vset (xs : List Nat) (i x : Nat) : (own_vals xs).set i (.int (Int32.ofNat x)) = own_vals (xs.set i x) := by
  unfold own_vals; rw [List.map_set]
theorem own_vlen (xs : List Nat) : (own_vals xs).length = xs.length := by simp [own_vals]
theorem own_vrep (n : Nat) : (List.replicate n (.int (0 : Int32)) : List Value) = own_vals (List.replicate n 0) := by
  rw [own_vals, List.map_replicate]; rfl
theorem own_gd {xs : List Nat} {i : Nat} (h : i < xs.length) : xs[i]? = some (xs.getD i 0) := by
  rw [List.getD_eq_getElem?_getD, List.getElem?_eq_getElem h]; rfl
/-! the sheet's sums over one array of documents -/
def own_B (fs : List Nat) (n : Nat) : Nat → List Nat
  | 0 => List.replicate (n + 1) 0
  | i + 1 => (own_B fs n i).set (fs.getD i 0 + 1) ((own_B fs n i).getD (fs.getD i 0 + 1) 0 + 1)
def own_C (fs : List Nat) (n : Nat) : Nat → List Nat
  | 0 => own_B fs n fs.length
  | i + 1 => (own_C fs n i).set (i + 1) ((own_C fs n i).getD (i + 1) 0 + (own_C fs n i).getD i 0)
def own_E (fs : List Nat) (n : Nat) : Nat → List Nat × List Nat
  | 0 => ((own_C fs n n).take n, List.replicate fs.length 4)
  | i + 1 => ((own_E fs n i).1.set (fs.getD i 0) ((own_E fs n i).1.getD (fs.getD i 0) 0 + 1), (own_E fs n i).2.set ((own_E fs n i).1.getD (fs.getD i 0) 0) i)
theorem own_Blen (fs : List Nat) (n : Nat) : ∀ i, (own_B fs n i).length = n + 1
  | 0 => by simp [own_B]
  | i + 1 => by rw [own_B, List.length_set, own_Blen fs n i]
theorem own_Clen (fs : List Nat) (n : Nat) : ∀ i, (own_C fs n i).length = n + 1
  | 0 => by rw [own_C, own_Blen]
  | i + 1 => by rw [own_C, List.length_set, own_Clen fs n i]
theorem own_E1len (fs : List Nat) (n : Nat) : ∀ i, (own_E fs n i).1.length = n
  | 0 => by rw [own_E, List.length_take, own_Clen]; omega
  | i + 1 => by rw [own_E, List.length_set, own_E1len fs n i]
theorem own_E2len (fs : List Nat) (n : Nat) : ∀ i, (own_E fs n i).2.length = fs.length
  | 0 => by simp [own_E]
  | i + 1 => by rw [own_E, List.length_set, own_E2len fs n i]
/-- all that is asked of the sums, for every small array -/
def own_ok (n k f0 f1 f2 f3 : Nat) : Bool :=
  let fs := [f0, f1, f2, f3].take k
  (List.range k).all (fun i => decide ((own_E fs n i).1.getD (fs.getD i 0) 0 < k) && decide ((own_E fs n i).1.getD (fs.getD i 0) 0 < 5)) &&
  (List.range (n + 1)).all (fun e => decide ((own_C fs n n).getD e 0 ≤ k) && (own_B fs n k).all (fun x => decide (x ≤ k))) && (List.range n).all (fun i => (own_C fs n i).all (fun x => decide (x ≤ 16))) && decide ((own_C fs n n).getD 0 0 = 0) &&
  (List.range n).all (fun e => decide ((own_C fs n n).getD e 0 ≤ (own_C fs n n).getD (e + 1) 0) && decide ((((own_E fs n k).2.drop ((own_C fs n n).getD e 0)).take ((own_C fs n n).getD (e + 1) 0 - (own_C fs n n).getD e 0)) = (List.range k).filter (fun j => fs.getD j 0 = e)))
def own_okAll : Bool := (List.range 5).all fun n => (List.range 5).all fun k => (List.range n).all fun f0 => (List.range n).all fun f1 => (List.range n).all fun f2 => (List.range n).all fun f3 => own_ok n k f0 f1 f2 f3
theorem own_okT : own_okAll = true := by decide +kernel
theorem own_okAt {n k f0 f1 f2 f3 : Nat} (hn : n < 5) (hk : k < 5) (h0 : f0 < n) (h1 : f1 < n) (h2 : f2 < n) (h3 : f3 < n) : own_ok n k f0 f1 f2 f3 = true := by
  have a := List.all_eq_true.mp own_okT n (List.mem_range.mpr hn)
  have b := List.all_eq_true.mp a k (List.mem_range.mpr hk)
  have c := List.all_eq_true.mp b f0 (List.mem_range.mpr h0)
  have d := List.all_eq_true.mp c f1 (List.mem_range.mpr h1)
  have e := List.all_eq_true.mp d f2 (List.mem_range.mpr h2)
  exact List.all_eq_true.mp e f3 (List.mem_range.mpr h3)
/-! sorting and counting -/
def own_ir (x : Nat) : List Nat → List Nat → List Nat
  | [], acc => x :: acc
  | y :: q, acc => if x < y then own_ir x q (y :: acc) else (y :: q).reverse ++ x :: acc
def own_so : List Nat → List Nat → List Nat
  | p, [] => p
  | p, x :: r => own_so (own_ir x p.reverse []) r
def own_sort : List Nat → List Nat
  | [] => []
  | x :: r => own_so [x] r
def own_dc (s : List Nat) : Nat → Nat
  | 0 => 0
  | i + 1 => own_dc s i + (if i = 0 then 1 else if s.getD i 0 = s.getD (i - 1) 0 then 0 else 1)
theorem own_irlen (x : Nat) : ∀ (q acc : List Nat), (own_ir x q acc).length = q.length + acc.length + 1
  | [], acc => by simp [own_ir]
  | y :: q, acc => by
    unfold own_ir; split
    · rw [own_irlen x q]; simp; omega
    · simp; omega
theorem own_solen : ∀ (r p : List Nat), (own_so p r).length = p.length + r.length
  | [], p => by simp [own_so]
  | x :: r, p => by rw [own_so, own_solen r, own_irlen]; simp; omega
theorem own_sortlen (s : List Nat) : (own_sort s).length = s.length := by
  cases s with
  | nil => rfl
  | cons x r => rw [own_sort, own_solen]; simp; omega
theorem own_dcle (s : List Nat) : ∀ i, own_dc s i ≤ i
  | 0 => Nat.le_refl _
  | i + 1 => by have := own_dcle s i; unfold own_dc; split <;> (try split) <;> omega
theorem own_dcpos (s : List Nat) : ∀ i, 0 < i → 0 < own_dc s i
  | 0, h => absurd h (Nat.lt_irrefl _)
  | 1, _ => by simp [own_dc]
  | i + 2, _ => by have := own_dcpos s (i + 1) (by omega); unfold own_dc; omega
def own_seg (fs ts : List Nat) (e : Nat) : List Nat := ((List.range fs.length).filter (fun j => fs.getD j 0 = e)).map (ts.getD · 0)
def own_D (fs ts : List Nat) (e : Nat) : Nat := own_dc (own_sort (own_seg fs ts e)) (own_seg fs ts e).length
def own_sz (fs ts : List Nat) : Nat → Nat
  | 0 => 0
  | e + 1 => own_sz fs ts e + own_D fs ts e
def own_F (fs ts : List Nat) (n : Nat) : Nat → List Nat
  | 0 => own_C fs n n
  | e + 1 => (own_F fs ts n e).set e (own_sz fs ts e)
theorem own_Flen (fs ts : List Nat) (n : Nat) : ∀ e, (own_F fs ts n e).length = n + 1
  | 0 => own_Clen ..
  | e + 1 => by rw [own_F, List.length_set, own_Flen fs ts n e]
theorem own_Fhi (fs ts : List Nat) (n : Nat) : ∀ e i, e ≤ i → (own_F fs ts n e)[i]? = (own_C fs n n)[i]?
  | 0, i, _ => rfl
  | e + 1, i, h => by rw [own_F, List.getElem?_set_ne (by omega), own_Fhi fs ts n e i (by omega)]
theorem own_Flo (fs ts : List Nat) (n : Nat) : ∀ e i, i < e → e ≤ n + 1 → (own_F fs ts n e)[i]? = some (own_sz fs ts i)
  | e + 1, i, h, hn => by
    rw [own_F]
    by_cases q : i = e
    · subst q; rw [List.getElem?_set_self (by rw [own_Flen]; omega)]
    · rw [List.getElem?_set_ne (by omega), own_Flo fs ts n e i (by omega) (by omega)]
/-! the law's own count -/
def own_dup (i j : Nat) (F T : Nat → Nat) : Nat := if i < j then (if F i = F j then (if T i = T j then 1 else 0) else 0) else 0
def own_slot (j k d : Nat) (F T : Nat → Nat) : Nat := if j < k then (if F j = d then (if own_dup 0 j F T = 0 then (if own_dup 1 j F T = 0 then (if own_dup 2 j F T = 0 then 1 else 0) else 0) else 0) else 0) else 0
def own_g (F : Nat → Nat) (d : Nat) (j : Nat) : Nat := if F j = d then 0 else 1
theorem own_slotg (j k d : Nat) (F T : Nat → Nat) : own_slot j k d F T = own_slot j k 0 (own_g F d) T := by
  unfold own_slot
  by_cases q : F j = d
  · have e : own_g F d j = 0 := if_pos q
    have dd : ∀ i, own_dup i j F T = own_dup i j (own_g F d) T := fun i => by
      unfold own_dup
      have : (F i = F j) = (own_g F d i = own_g F d j) := by
        rw [e, q]; unfold own_g; by_cases u : F i = d <;> simp [u]
      simp only [this]
    simp only [dd, q, e]
  · have e : ¬ own_g F d j = 0 := by unfold own_g; simp [q]
    simp [q, e]
def own_chk (k g0 g1 g2 g3 t0 t1 t2 t3 : Nat) : Bool :=
  decide (own_D ([g0, g1, g2, g3].take k) ([t0, t1, t2, t3].take k) 0 = own_slot 0 k 0 ([g0, g1, g2, g3].getD · 0) ([t0, t1, t2, t3].getD · 0) + own_slot 1 k 0 ([g0, g1, g2, g3].getD · 0) ([t0, t1, t2, t3].getD · 0) + own_slot 2 k 0 ([g0, g1, g2, g3].getD · 0) ([t0, t1, t2, t3].getD · 0) + own_slot 3 k 0 ([g0, g1, g2, g3].getD · 0) ([t0, t1, t2, t3].getD · 0))
def own_chkAll : Bool := (List.range 5).all fun k => (List.range 2).all fun g0 => (List.range 2).all fun g1 => (List.range 2).all fun g2 => (List.range 2).all fun g3 => (List.range 4).all fun t0 => (List.range 4).all fun t1 => (List.range 4).all fun t2 => (List.range 4).all fun t3 => own_chk k g0 g1 g2 g3 t0 t1 t2 t3
theorem own_chkT : own_chkAll = true := by decide +kernel
theorem own_chkAt {k g0 g1 g2 g3 t0 t1 t2 t3 : Nat} (hk : k < 5) (h0 : g0 < 2) (h1 : g1 < 2) (h2 : g2 < 2) (h3 : g3 < 2) (u0 : t0 < 4) (u1 : t1 < 4) (u2 : t2 < 4) (u3 : t3 < 4) : own_chk k g0 g1 g2 g3 t0 t1 t2 t3 = true := by
  have a := List.all_eq_true.mp own_chkT k (List.mem_range.mpr hk)
  have a := List.all_eq_true.mp a g0 (List.mem_range.mpr h0)
  have a := List.all_eq_true.mp a g1 (List.mem_range.mpr h1)
  have a := List.all_eq_true.mp a g2 (List.mem_range.mpr h2)
  have a := List.all_eq_true.mp a g3 (List.mem_range.mpr h3)
  have a := List.all_eq_true.mp a t0 (List.mem_range.mpr u0)
  have a := List.all_eq_true.mp a t1 (List.mem_range.mpr u1)
  have a := List.all_eq_true.mp a t2 (List.mem_range.mpr u2)
  exact List.all_eq_true.mp a t3 (List.mem_range.mpr u3)
theorem own_segg (k d f0 f1 f2 f3 : Nat) (ts : List Nat) (hk : k < 5) : own_seg ([f0, f1, f2, f3].take k) ts d = own_seg ([own_g ([f0, f1, f2, f3].getD · 0) d 0, own_g ([f0, f1, f2, f3].getD · 0) d 1, own_g ([f0, f1, f2, f3].getD · 0) d 2, own_g ([f0, f1, f2, f3].getD · 0) d 3].take k) ts 0 := by
  have hh : k = 0 ∨ k = 1 ∨ k = 2 ∨ k = 3 ∨ k = 4 := by omega
  have g : ∀ x : Nat, (decide (x = d)) = decide ((if x = d then 0 else 1) = 0) := fun x => by by_cases u : x = d <;> simp [u]
  rcases hh with rfl | rfl | rfl | rfl | rfl <;> simp [own_seg, own_g, List.range_succ, List.filter_cons, g]
theorem own_glt (F : Nat → Nat) (d j : Nat) : own_g F d j < 2 := by unfold own_g; split <;> omega
/-- the law's count is the graph's -/
theorem own_law {k d f0 f1 f2 f3 t0 t1 t2 t3 : Nat} (hk : k < 5) (u0 : t0 < 4) (u1 : t1 < 4) (u2 : t2 < 4) (u3 : t3 < 4) :
    own_D ([f0, f1, f2, f3].take k) ([t0, t1, t2, t3].take k) d = own_slot 0 k d ([f0, f1, f2, f3].getD · 0) ([t0, t1, t2, t3].getD · 0) + own_slot 1 k d ([f0, f1, f2, f3].getD · 0) ([t0, t1, t2, t3].getD · 0) + own_slot 2 k d ([f0, f1, f2, f3].getD · 0) ([t0, t1, t2, t3].getD · 0) + own_slot 3 k d ([f0, f1, f2, f3].getD · 0) ([t0, t1, t2, t3].getD · 0) := by
  have c := of_decide_eq_true (own_chkAt hk (own_glt ([f0, f1, f2, f3].getD · 0) d 0) (own_glt ([f0, f1, f2, f3].getD · 0) d 1) (own_glt ([f0, f1, f2, f3].getD · 0) d 2) (own_glt ([f0, f1, f2, f3].getD · 0) d 3) u0 u1 u2 u3)
  have s : ∀ j, j < 4 → own_slot j k d ([f0, f1, f2, f3].getD · 0) ([t0, t1, t2, t3].getD · 0) = own_slot j k 0 ([own_g ([f0, f1, f2, f3].getD · 0) d 0, own_g ([f0, f1, f2, f3].getD · 0) d 1, own_g ([f0, f1, f2, f3].getD · 0) d 2, own_g ([f0, f1, f2, f3].getD · 0) d 3].getD · 0) ([t0, t1, t2, t3].getD · 0) := fun j hj => by
    rw [own_slotg]
    have hh : j = 0 ∨ j = 1 ∨ j = 2 ∨ j = 3 := by omega
    rcases hh with rfl | rfl | rfl | rfl <;> simp [own_slot, own_dup]
  rw [s 0 (by omega), s 1 (by omega), s 2 (by omega), s 3 (by omega), ← c]
  unfold own_D
  rw [own_segg k d f0 f1 f2 f3 _ hk]

theorem own_setA (A r s : List Nat) (g x : Nat) : (A ++ (r ++ g :: s)).set (A.length + r.length) x = A ++ (r ++ x :: s) := by
  rw [List.set_append_right _ _ (by omega), Nat.add_sub_cancel_left, List.set_append_right _ _ (Nat.le_refl _), Nat.sub_self]; rfl
theorem own_getA (A r s : List Nat) (g : Nat) : (A ++ (r ++ g :: s))[A.length + r.length]? = some g := by
  rw [List.getElem?_append_right (by omega), Nat.add_sub_cancel_left, List.getElem?_append_right (Nat.le_refl _), Nat.sub_self]; rfl
theorem own_gety {lo : Nat} (A q : List Nat) (y g : Nat) (s : List Nat) (hA : A.length = lo) : (A ++ ((y :: q).reverse ++ g :: s))[lo + q.length]? = some y := by
  have := own_getA A q.reverse (g :: s) y
  rw [List.length_reverse, hA] at this
  rw [List.reverse_cons, List.append_assoc]
  exact this
theorem own_irN {x y : Nat} {q acc D : List Nat} (h : ¬ x < y) : (y :: q).reverse ++ x :: (acc ++ D) = own_ir x (y :: q) acc ++ D := by
  rw [own_ir, if_neg h, List.append_assoc]; rfl
theorem own_irN' {x y : Nat} {q : List Nat} (h : ¬ x < y) : own_ir x (y :: q) [] = (y :: q).reverse ++ [x] := by rw [own_ir, if_neg h]
theorem own_irY {x y : Nat} {q acc : List Nat} (h : x < y) : own_ir x (y :: q) acc = own_ir x q (y :: acc) := by rw [own_ir, if_pos h]
theorem own_shift {y : Nat} {q acc D : List Nat} : (y :: q).reverse ++ y :: (acc ++ D) = q.reverse ++ y :: ((y :: acc) ++ D) := by simp
theorem own_dec {a : Nat} (b : Nat) : Int32.ofNat (a + (b + 1)) + Int32.ofInt (-1) = Int32.ofNat (a + b) := by
  have e := own_sub (i := a + (b + 1)) (j := 1) (by omega)
  rw [show a + (b + 1) - 1 = a + b from by omega] at e
  rw [← e, Int32.sub_eq_add_neg]; rfl
theorem own_m1p1 (a : Nat) : (Int32.ofNat a + (-1 : Int32)) + (1 : Int32) = Int32.ofNat a := by
  rw [Int32.add_assoc, show (-1 : Int32) + 1 = 0 from by decide, Int32.add_zero]
theorem own_pred {a : Nat} (h : a < 2147483648) : Int32.ofNat a + (-1 : Int32) < Int32.ofNat a := by
  have e : Int32.ofNat a + (-1 : Int32) = Int32.ofNat a - 1 := by rw [Int32.sub_eq_add_neg]
  rw [e, Int32.lt_iff_toInt_lt, Int32.toInt_sub, own_toInt h, show (1 : Int32).toInt = 1 from rfl, Int.bmod_eq_of_le (by omega) (by omega)]; omega
theorem own_inc {lo : Nat} {p : List Nat} (hp : 0 < p.length) : Int32.ofNat (lo + p.length - 1) + Int32.ofInt 1 = Int32.ofNat (lo + p.length) := by
  have := own_one (lo + p.length - 1)
  rw [show lo + p.length - 1 + 1 = lo + p.length from by omega] at this
  exact this
theorem own_getx {lo : Nat} (A p : List Nat) (x : Nat) (s : List Nat) (hA : A.length = lo) : (A ++ (p ++ x :: s))[lo + p.length]? = some x := by rw [← hA]; exact own_getA A p s x
theorem own_getl {lo : Nat} (A p q : List Nat) (y : Nat) (s : List Nat) (hA : A.length = lo) (hq : p.reverse = y :: q) : (A ++ (p ++ s))[lo + p.length - 1]? = some y := by
  have e : p = q.reverse ++ [y] := by rw [← List.reverse_reverse p, hq, List.reverse_cons]
  have l : p.length = q.length + 1 := by rw [e]; simp
  have := own_getA A q.reverse s y
  rw [List.length_reverse, hA] at this
  rw [l, show lo + (q.length + 1) - 1 = lo + q.length from by omega, e, List.append_assoc]
  exact this
theorem own_irm {x b : Nat} (hx : x < b) : ∀ (q acc : List Nat), (∀ z ∈ q, z < b) → (∀ z ∈ acc, z < b) → ∀ z ∈ own_ir x q acc, z < b
  | [], acc, _, ha, z, hz => by
    rcases List.mem_cons.mp hz with rfl | hz
    · exact hx
    · exact ha z hz
  | y :: q, acc, hq, ha, z, hz => by
    unfold own_ir at hz
    split at hz
    · exact own_irm hx q (y :: acc) (fun z hz => hq z (List.mem_cons_of_mem _ hz)) (fun z hz => by
        rcases List.mem_cons.mp hz with rfl | hz
        · exact hq _ (List.mem_cons_self ..)
        · exact ha z hz) z hz
    · rcases List.mem_append.mp hz with hz | hz
      · exact hq z (List.mem_reverse.mp hz)
      · rcases List.mem_cons.mp hz with rfl | hz
        · exact hx
        · exact ha z hz
theorem own_irb {x : Nat} {q : List Nat} (hx : x < 100) (hq : ∀ z ∈ q, z < 100) : ∀ z ∈ own_ir x q [], z < 100 := own_irm hx q [] hq (fun _ h => nomatch h)
theorem own_som {b : Nat} : ∀ (r p : List Nat), (∀ z ∈ r, z < b) → (∀ z ∈ p, z < b) → ∀ z ∈ own_so p r, z < b
  | [], p, _, hp => hp
  | x :: r, p, hr, hp => by
    rw [own_so]
    exact own_som r _ (fun z hz => hr z (List.mem_cons_of_mem _ hz)) (own_irm (hr x (List.mem_cons_self ..)) _ [] (fun z hz => hp z (List.mem_reverse.mp hz)) (fun _ h => nomatch h))
theorem own_sortb {s : List Nat} (hs : ∀ z ∈ s, z < 100) (i : Nat) (hi : i < (own_sort s).length) : (own_sort s).getD i 0 < 100 := by
  have m : ∀ z ∈ own_sort s, z < 100 := by
    cases s with
    | nil => exact fun _ h => nomatch h
    | cons x r => exact own_som r [x] (fun z hz => hs z (List.mem_cons_of_mem _ hz)) (fun z hz => by cases List.mem_singleton.mp hz; exact hs _ (List.mem_cons_self ..))
  exact m _ (List.mem_of_getElem? (own_gd hi))
theorem own_cp {xs : List Nat} {m : Nat} (h : m ≤ xs.length) : (List.replicate m (.int (0 : Int32)) : List Value).take 0 ++ ((own_vals xs).drop 0).take (min xs.length m) ++ (List.replicate m (.int (0 : Int32)) : List Value).drop (0 + min xs.length m) = own_vals (xs.take m) := by
  rw [Nat.min_eq_right h, List.take_zero, List.nil_append, List.drop_zero, Nat.zero_add, List.drop_of_length_le (by simp), List.append_nil, own_vals, own_vals, List.map_take]
theorem own_dupb (i j : Nat) (F T : Nat → Nat) : own_dup i j F T < 2147483648 := by
  unfold own_dup; split <;> (try split) <;> (try split) <;> omega
theorem own_mapset (l ts : List Nat) (p i : Nat) : (l.map (ts.getD · 0)).set p (ts.getD i 0) = (l.set p i).map (ts.getD · 0) := by rw [List.map_set]
theorem own_drop {tg ss D : List Nat} {a j : Nat} (hdr : tg.drop j = (ss ++ D).drop (j - a)) (h : j - a < ss.length) : tg[j]? = some (ss.getD (j - a) 0) := by
  have e : (tg.drop j)[0]? = ((ss ++ D).drop (j - a))[0]? := by rw [hdr]
  rw [List.getElem?_drop, List.getElem?_drop, Nat.add_zero, Nat.add_zero, List.getElem?_append_left h] at e
  rw [e]; exact own_gd h
theorem own_dropS {tg ss D : List Nat} {a j : Nat} (hdr : tg.drop j = (ss ++ D).drop (j - a)) (h : a ≤ j) : tg.drop (j + 1) = (ss ++ D).drop (j + 1 - a) := by
  rw [show j + 1 - a = (j - a) + 1 from by omega, ← List.drop_drop, ← List.drop_drop, hdr]
theorem own_dropset {tg : List Nat} {p j x : Nat} (h : p < j) : (tg.set p x).drop j = tg.drop j := by
  apply List.ext_getElem?
  intro i
  rw [List.getElem?_drop, List.getElem?_drop, List.getElem?_set_ne (by omega)]
theorem own_segb {fs ts : List Nat} {n k : Nat} (hfl : fs.length = k) (htb : ∀ i, i < k → ts.getD i 0 < n) (hn : n ≤ 4) (e : Nat) : ∀ z ∈ own_seg fs ts e, z < 4 := fun z hz => by
  unfold own_seg at hz
  obtain ⟨j, hj, rfl⟩ := List.mem_map.mp hz
  have := List.mem_range.mp (List.mem_filter.mp hj).1
  have := htb j (by omega)
  omega
theorem own_lab0 (fs : List Nat) (n : Nat) (ts : List Nat) (k : Nat) (hfl : fs.length = k) (htl : ts.length ≤ 4) : own_vals (List.replicate k 0) = own_vals ((own_E fs n 0).2.map (ts.getD · 0)) := by
  have e : ts.getD 4 0 = 0 := by rw [List.getD_eq_getElem?_getD, List.getElem?_eq_none htl]; rfl
  rw [own_E]; simp only [List.map_replicate]; rw [hfl, e]
theorem own_takeb {n k f0 f1 f2 f3 : Nat} (hk : k < 5) (h0 : f0 < n) (h1 : f1 < n) (h2 : f2 < n) (h3 : f3 < n) : ∀ i, i < k → ([f0, f1, f2, f3].take k).getD i 0 < n := fun i hi => by
  have hh : i = 0 ∨ i = 1 ∨ i = 2 ∨ i = 3 := by omega
  rw [List.getD_eq_getElem?_getD, List.getElem?_take_of_lt hi]
  rcases hh with rfl | rfl | rfl | rfl
  · exact h0
  · exact h1
  · exact h2
  · exact h3
theorem own_takel {k f0 f1 f2 f3 : Nat} (hk : k < 5) : ([f0, f1, f2, f3].take k).length = k := by rw [List.length_take]; simp; omega
theorem own_facts {n k f0 f1 f2 f3 : Nat} (ts : List Nat) (hn : n < 5) (hk : k < 5) (h0 : f0 < n) (h1 : f1 < n) (h2 : f2 < n) (h3 : f3 < n) :
    (∀ i, i < k → (own_E ([f0, f1, f2, f3].take k) n i).1.getD (([f0, f1, f2, f3].take k).getD i 0) 0 < k) ∧ (∀ e, e ≤ n → (own_C ([f0, f1, f2, f3].take k) n n).getD e 0 ≤ k) ∧
    (∀ e, e < n → (own_C ([f0, f1, f2, f3].take k) n n).getD e 0 ≤ (own_C ([f0, f1, f2, f3].take k) n n).getD (e + 1) 0 ∧ (((own_E ([f0, f1, f2, f3].take k) n k).2.map (ts.getD · 0)).drop ((own_C ([f0, f1, f2, f3].take k) n n).getD e 0)).take ((own_C ([f0, f1, f2, f3].take k) n n).getD (e + 1) 0 - (own_C ([f0, f1, f2, f3].take k) n n).getD e 0) = own_seg ([f0, f1, f2, f3].take k) ts e) ∧
    (own_C ([f0, f1, f2, f3].take k) n n).getD 0 0 = 0 := by
  have h := own_okAt hn hk h0 h1 h2 h3
  unfold own_ok at h
  simp only [Bool.and_eq_true, List.all_eq_true, List.mem_range, decide_eq_true_eq] at h
  obtain ⟨⟨⟨⟨c1, c2⟩, -⟩, c0⟩, c3⟩ := h
  refine ⟨fun i hi => (c1 i hi).1, fun e he => (c2 e (by omega)).1, fun e he => ⟨(c3 e he).1, ?_⟩, c0⟩
  rw [← List.map_drop, ← List.map_take, (c3 e he).2, own_seg, own_takel hk]
theorem own_szle {fs ts : List Nat} {n : Nat} (tg0 : List Nat) (c0 : (own_C fs n n).getD 0 0 = 0) (c3 : ∀ e, e < n → (own_C fs n n).getD e 0 ≤ (own_C fs n n).getD (e + 1) 0 ∧ (tg0.drop ((own_C fs n n).getD e 0)).take ((own_C fs n n).getD (e + 1) 0 - (own_C fs n n).getD e 0) = own_seg fs ts e) : ∀ e, e ≤ n → own_sz fs ts e ≤ (own_C fs n n).getD e 0
  | 0, _ => Nat.zero_le _
  | e + 1, h => by
    have ih := own_szle tg0 c0 c3 e (by omega)
    have q := c3 e (by omega)
    have l : (own_seg fs ts e).length ≤ (own_C fs n n).getD (e + 1) 0 - (own_C fs n n).getD e 0 := by rw [← q.2, List.length_take]; exact Nat.min_le_left ..
    have d := own_dcle (own_sort (own_seg fs ts e)) (own_seg fs ts e).length
    rw [own_sz, own_D]; omega

theorem own_st {l l' : Array Slot} {i : Nat} {v : Value} {o : Slot} (hold : l[i]? = some o) (ho : One o) (hv : v.category = 1) (hl : l.setIfInBounds i (.val v) = l') : storeLocals l i v = some l' := hl ▸ XS.store1 hold ho hv
theorem own_two {h : Heap} {n0 : Nat} {x y : Addr × (Cell → Prop)} {Ls : List (Addr × (Cell → Prop))} (O : Hp h n0 (x :: y :: Ls)) : Hp h n0 [x, y] := by
  obtain ⟨h1, h2, h3⟩ := O
  have q := List.pairwise_cons.mp h2
  exact ⟨h1, List.pairwise_cons.mpr ⟨fun z hz => by cases List.mem_singleton.mp hz; exact q.1 y (List.mem_cons_self ..), List.pairwise_singleton ..⟩, fun z hz => h3 z (by
    rcases List.mem_cons.mp hz with rfl | hz
    · exact List.mem_cons_self ..
    · cases List.mem_singleton.mp hz; exact List.mem_cons_of_mem _ (List.mem_cons_self ..))⟩
theorem own_three (x : Int32) : 0 ≤ (x &&& (3 : Int32)).toInt ∧ (x &&& (3 : Int32)).toInt ≤ (3 : Nat) := by
  have h1 := c_and x 3 (by decide)
  have e : (3 : Int32).toInt = 3 := rfl
  omega
theorem own_k5 (x : Int32) : 0 ≤ ((x &&& (7 : Int32)) % (5 : Int32)).toInt ∧ ((x &&& (7 : Int32)) % (5 : Int32)).toInt ≤ (4 : Nat) := by
  have h1 := c_and x 7 (by decide)
  have h2 := (c_irem (x &&& 7) 5 5 rfl).1 h1.1
  omega
theorem own_dm (x : Int32) (n : Nat) (h0 : 0 < n) (h1 : n < 100) : 0 ≤ ((x &&& (3 : Int32)) % Int32.ofNat n).toInt ∧ ((x &&& (3 : Int32)) % Int32.ofNat n).toInt ≤ (n - 1 : Nat) := by
  have h2 := c_and x 3 (by decide)
  have h3 := (c_irem (x &&& 3) (Int32.ofNat n) n (own_toInt (by omega))).1 h2.1
  have h4 := Int.emod_lt_of_pos (x &&& 3).toInt (show (0 : Int) < n by omega)
  have h5 := Int.emod_nonneg (x &&& 3).toInt (show (n : Int) ≠ 0 by omega)
  omega
theorem own_four4 {a b c d : Nat} (h0 : a < 100) (h1 : b < 100) (h2 : c < 100) (h3 : d < 100) : ∀ i, ([a, b, c, d] : List Nat).getD i 0 < 100
  | 0 => h0
  | 1 => h1
  | 2 => h2
  | 3 => h3
  | _ + 4 => by first | simp | exact (show (0 : Nat) < 100 by decide)

set_option maxRecDepth 65536 in
set_option maxHeartbeats 40000000 in
theorem rm_min (l : Launch) (Z : State) (a0 : Array Value) (hw : ∀ d ∈ tables_1, d.before a0 Z = true) (x y : Nat) (hx : x < 100) (hy : y < 100) (h : Heap) (n0 : Nat)  :
    Met l Z (⟨"java/lang/Math", "min", "(II)I"⟩ : MethodName) jdk_29_method_69_code 2 (some .int) (rmk 0 0 0 0) #[(.int (Int32.ofNat x)), (.int (Int32.ofNat y))] h n0 (fun v h' => v = some (.int (Int32.ofNat (min x y))) ∧ h = h') := by
  refine own_ofF (L0 := #[.val (.int (Int32.ofNat x)), .val (.int (Int32.ofNat y))]) (Jvm.Free.JP.mathPlain rfl (by decide +kernel)) (own_ef rfl) ?_
  refine Wp.iloadN (pc' := 1) d4_0 rfl rfl ?_
  refine Wp.iloadN (pc' := 2) d4_1 rfl rfl ?_
  by_cases c2 : (Int32.ofNat y) < (Int32.ofNat x)
  · refine Wp.icmpY (pc' := 9) d4_2 c2 (by decide) (by decide) ?_
    refine Wp.iloadN (pc' := 10) d4_9 rfl rfl ?_
    exact Wp.retI rfl d4_10 (by decide) (by decide) ⟨congrArg (fun q => some (Value.int (Int32.ofNat q))) (by rw [own_lt (by omega) (by omega)] at c2; omega), rfl⟩
  · refine Wp.icmpN (pc' := 5) d4_2 c2 rfl ?_
    refine Wp.iloadN (pc' := 6) d4_5 rfl rfl ?_
    refine Wp.goto (pc' := 10) d4_6 (by decide) (by decide) ?_
    exact Wp.retI rfl d4_10 (by decide) (by decide) ⟨congrArg (fun q => some (Value.int (Int32.ofNat q))) (by rw [own_lt (by omega) (by omega)] at c2; omega), rfl⟩

set_option maxRecDepth 65536 in
set_option maxHeartbeats 40000000 in
theorem rm_cpN (l : Launch) (Z : State) (a0 : Array Value) (hw : ∀ d ∈ tables_1, d.before a0 Z = true) (a : Addr) (k : ClassId) (xs : List Nat) (m : Nat) (hm4 : m ≤ 4) (hm : m < xs.length) (h : Heap) (n0 : Nat) {Ls : List (Addr × (Cell → Prop))} (O : Hp h n0 ((a, ArC Z k .int (own_vals xs)) :: Ls)) (hx : xs.length ≤ 5) :
    Met l Z (⟨"java/util/Arrays", "copyOf", "([II)[I"⟩ : MethodName) jdk_65_method_123_code 3 (some (.array .int)) (rmk 1 1 4 18) #[(.ref a), (.int (Int32.ofNat m))] h n0 (fun v h' => ∃ b kb, v = some (.ref b) ∧ Hp h' n0 ((b, ArC Z kb .int (own_vals (xs.take m))) :: (a, ArC Z k .int (own_vals xs)) :: Ls)) := by
  refine Met.of (L0 := #[.val (.ref a), .val (.int (Int32.ofNat m)), .unset]) pn_a (own_ef rfl) ?_
  refine Wp.iloadN (pc' := 1) d3_0 rfl rfl ?_
  refine Wp.aloadN (pc' := 2) d3_1 rfl rfl rfl ?_
  refine Wp.arrlen (i := 0) (z := (Int32.ofNat xs.length)) (pc' := 3) O rfl d3_2 (by rw [own_vlen]) rfl ?_
  refine Wp.icmpY (pc' := 14) d3_3 (fun q => by rw [own_inj (by omega) (by omega)] at q; omega) (by decide) (by decide) ?_
  refine Wp.iloadN (pc' := 15) d3_14 rfl rfl ?_
  refine Wp.newarr (m := m) (cap := 4) (pc' := 17) O (hw _ (List.mem_of_getElem? (i := 0) rfl)) d3_15 (own_nn (by omega)) (own_n32 (by omega)) (by omega) (by decide) (by decide) (by decide) rfl ?_
  intro h2 b k1 O2
  have O2 : Hp h2 n0 ((b, ArC Z k1 .int (List.replicate m (.int (0 : Int32)))) :: (a, ArC Z k .int (own_vals xs)) :: Ls) := O2
  refine Wp.astoreN (L' := #[.val (.ref a), .val (.int (Int32.ofNat m)), .val (.ref b)]) (pc' := 18) d3_17 rfl rfl rfl ?_
  refine Wp.aloadN (pc' := 19) d3_18 rfl rfl rfl ?_
  refine Wp.iconst (z := (0 : Int32)) (pc' := 20) d3_19 (by decide) rfl ?_
  refine Wp.aloadN (pc' := 21) d3_20 rfl rfl rfl ?_
  refine Wp.iconst (z := (0 : Int32)) (pc' := 22) d3_21 (by decide) rfl ?_
  refine Wp.aloadN (pc' := 23) d3_22 rfl rfl rfl ?_
  refine Wp.arrlen (i := 1) (z := (Int32.ofNat xs.length)) (pc' := 24) O2 rfl d3_23 (by rw [own_vlen]) rfl ?_
  refine Wp.iloadN (pc' := 25) d3_24 rfl rfl ?_
  refine Wp.callS (yy := (⟨"java/lang/Math", "min", "(II)I"⟩ : MethodName)) (pc' := 28) (argsL := [(.int (Int32.ofNat xs.length)), (.int (Int32.ofNat m))]) (S := [(.int (0 : Int32)), (.ref b), (.int (0 : Int32)), (.ref a)]) (rm_min l Z a0 hw xs.length m (by omega) (by omega) h2 n0) (hw _ (List.mem_of_getElem? (i := 16) rfl)) (hw _ (List.mem_of_getElem? (i := 17) rfl)) (hw _ (List.mem_of_getElem? (i := 18) rfl)) (hw _ (List.mem_of_getElem? (i := 19) rfl)) (by decide) (W := 4) rfl (lenOf pd_0 rfl) rfl rfl (Nat.le_refl 4) (by decide) (by decide) (by decide) (by decide) d3_25 rfl ?_
  rintro _ _ ⟨rfl, rfl⟩
  show Wp _ _ _ _ _ _ _ _ _ _ _ _ 28 #[.val (.ref a), .val (.int (Int32.ofNat m)), .val (.ref b)] [(.int (Int32.ofNat (min xs.length m))), (.int (0 : Int32)), (.ref b), (.int (0 : Int32)), (.ref a)]
  refine Wp.arraycopy (i := 0) (sp := 0) (dp := 0) (nn := (min xs.length m)) (pc' := 31) O2 rfl rfl (hw _ (List.mem_of_getElem? (i := 20) rfl)) (hw _ (List.mem_of_getElem? (i := 23) rfl)) (hw _ (List.mem_of_getElem? (i := 21) rfl)) (hw _ (List.mem_of_getElem? (i := 22) rfl)) rfl rfl rfl (by rw [own_vlen]; omega) (by rw [List.length_replicate]; omega) (by rw [own_vlen]; omega) (by rw [List.length_replicate]; omega) (W := 0) rfl (Nat.le_refl 0) (by decide) (by decide) d3_28 rfl ?_
  intro h3 O3
  rw [own_cp (by omega)] at O3
  have O3 : Hp h3 n0 ((b, ArC Z k1 .int (own_vals (xs.take m))) :: (a, ArC Z k .int (own_vals xs)) :: Ls) := O3
  refine Wp.aloadN (pc' := 32) d3_31 rfl rfl rfl ?_
  exact Wp.retA (t := (.array .int)) rfl rfl rfl rfl d3_32 (by decide) (by decide) ⟨b, k1, rfl, O3⟩

set_option maxRecDepth 65536 in
set_option maxHeartbeats 40000000 in
theorem rm_cpL (l : Launch) (Z : State) (a0 : Array Value) (hw : ∀ d ∈ tables_1, d.before a0 Z = true) (a : Addr) (k : ClassId) (xs : List Nat) (m : Nat) (hm4 : m ≤ 4) (hm : m ≤ xs.length) (hk : Z.vm.findClass "[I" = some k) (h : Heap) (n0 : Nat) {Ls : List (Addr × (Cell → Prop))} (O : Hp h n0 ((a, ArC Z k .int (own_vals xs)) :: Ls)) (hx : xs.length ≤ 5) :
    Met l Z (⟨"java/util/Arrays", "copyOf", "([II)[I"⟩ : MethodName) jdk_65_method_123_code 3 (some (.array .int)) (rmk 1 1 4 18) #[(.ref a), (.int (Int32.ofNat m))] h n0 (fun v h' => (∃ b, v = some (.ref b)) ∧ Hp h' n0 ((a, ArC Z k .int (own_vals xs)) :: Ls)) := by
  refine Met.of (L0 := #[.val (.ref a), .val (.int (Int32.ofNat m)), .unset]) pn_a (own_ef rfl) ?_
  refine Wp.iloadN (pc' := 1) d3_0 rfl rfl ?_
  refine Wp.aloadN (pc' := 2) d3_1 rfl rfl rfl ?_
  refine Wp.arrlen (i := 0) (z := (Int32.ofNat xs.length)) (pc' := 3) O rfl d3_2 (by rw [own_vlen]) rfl ?_
  by_cases c3 : (Int32.ofNat m) = (Int32.ofNat xs.length)
  · refine Wp.icmpN (pc' := 6) d3_3 (not_not_intro c3) rfl ?_
    have hml : m = xs.length := (own_inj (by omega) (by omega)).mp c3
    refine Wp.aloadN (pc' := 7) d3_6 rfl rfl rfl ?_
    refine Wp.clone (i := 0) (C := "[I") (cap := 4) (pc' := 10) O rfl hk (hw _ (List.mem_of_getElem? (i := 42) rfl)) (hw _ (List.mem_of_getElem? (i := 43) rfl)) (hw _ (List.mem_of_getElem? (i := 47) rfl)) (hw _ (List.mem_of_getElem? (i := 45) rfl)) (hw _ (List.mem_of_getElem? (i := 46) rfl)) (hw _ (List.mem_of_getElem? (i := 48) rfl)) (W := 0) rfl (Nat.le_refl 0) (by decide) (by decide) (by rw [own_vlen]; omega) (by decide) (by decide) d3_7 rfl ?_
    intro h1 b2 O1
    have O1 : Hp h1 n0 ((b2, ArC Z k .int (own_vals xs)) :: (a, ArC Z k .int (own_vals xs)) :: Ls) := O1
    refine Wp.checkcast (C := "[I") (pc' := 13) (O1.insA (i := 0) rfl hk) (hw _ (List.mem_of_getElem? (i := 49) rfl)) d3_10 rfl ?_
    exact Wp.retA (t := (.array .int)) rfl rfl rfl rfl d3_13 (by decide) (by decide) ⟨⟨b2, rfl⟩, O1.drop⟩
  · refine Wp.icmpY (pc' := 14) d3_3 c3 (by decide) (by decide) ?_
    refine Wp.iloadN (pc' := 15) d3_14 rfl rfl ?_
    refine Wp.newarr (m := m) (cap := 4) (pc' := 17) O (hw _ (List.mem_of_getElem? (i := 0) rfl)) d3_15 (own_nn (by omega)) (own_n32 (by omega)) (by omega) (by decide) (by decide) (by decide) rfl ?_
    intro h3 b k2 O3
    have O3 : Hp h3 n0 ((b, ArC Z k2 .int (List.replicate m (.int (0 : Int32)))) :: (a, ArC Z k .int (own_vals xs)) :: Ls) := O3
    refine Wp.astoreN (L' := #[.val (.ref a), .val (.int (Int32.ofNat m)), .val (.ref b)]) (pc' := 18) d3_17 rfl rfl rfl ?_
    refine Wp.aloadN (pc' := 19) d3_18 rfl rfl rfl ?_
    refine Wp.iconst (z := (0 : Int32)) (pc' := 20) d3_19 (by decide) rfl ?_
    refine Wp.aloadN (pc' := 21) d3_20 rfl rfl rfl ?_
    refine Wp.iconst (z := (0 : Int32)) (pc' := 22) d3_21 (by decide) rfl ?_
    refine Wp.aloadN (pc' := 23) d3_22 rfl rfl rfl ?_
    refine Wp.arrlen (i := 1) (z := (Int32.ofNat xs.length)) (pc' := 24) O3 rfl d3_23 (by rw [own_vlen]) rfl ?_
    refine Wp.iloadN (pc' := 25) d3_24 rfl rfl ?_
    refine Wp.callS (yy := (⟨"java/lang/Math", "min", "(II)I"⟩ : MethodName)) (pc' := 28) (argsL := [(.int (Int32.ofNat xs.length)), (.int (Int32.ofNat m))]) (S := [(.int (0 : Int32)), (.ref b), (.int (0 : Int32)), (.ref a)]) (rm_min l Z a0 hw xs.length m (by omega) (by omega) h3 n0) (hw _ (List.mem_of_getElem? (i := 16) rfl)) (hw _ (List.mem_of_getElem? (i := 17) rfl)) (hw _ (List.mem_of_getElem? (i := 18) rfl)) (hw _ (List.mem_of_getElem? (i := 19) rfl)) (by decide) (W := 4) rfl (lenOf pd_0 rfl) rfl rfl (Nat.le_refl 4) (by decide) (by decide) (by decide) (by decide) d3_25 rfl ?_
    rintro _ _ ⟨rfl, rfl⟩
    show Wp _ _ _ _ _ _ _ _ _ _ _ _ 28 #[.val (.ref a), .val (.int (Int32.ofNat m)), .val (.ref b)] [(.int (Int32.ofNat (min xs.length m))), (.int (0 : Int32)), (.ref b), (.int (0 : Int32)), (.ref a)]
    refine Wp.arraycopy (i := 0) (sp := 0) (dp := 0) (nn := (min xs.length m)) (pc' := 31) O3 rfl rfl (hw _ (List.mem_of_getElem? (i := 20) rfl)) (hw _ (List.mem_of_getElem? (i := 23) rfl)) (hw _ (List.mem_of_getElem? (i := 21) rfl)) (hw _ (List.mem_of_getElem? (i := 22) rfl)) rfl rfl rfl (by rw [own_vlen]; omega) (by rw [List.length_replicate]; omega) (by rw [own_vlen]; omega) (by rw [List.length_replicate]; omega) (W := 0) rfl (Nat.le_refl 0) (by decide) (by decide) d3_28 rfl ?_
    intro h4 O4
    rw [own_cp (by omega)] at O4
    have O4 : Hp h4 n0 ((b, ArC Z k2 .int (own_vals (xs.take m))) :: (a, ArC Z k .int (own_vals xs)) :: Ls) := O4
    refine Wp.aloadN (pc' := 32) d3_31 rfl rfl rfl ?_
    exact Wp.retA (t := (.array .int)) rfl rfl rfl rfl d3_32 (by decide) (by decide) ⟨⟨b, rfl⟩, O4.drop⟩

set_option maxRecDepth 65536 in
set_option maxHeartbeats 40000000 in
theorem rm_rng (l : Launch) (Z : State) (a0 : Array Value) (hw : ∀ d ∈ tables_1, d.before a0 Z = true) (ln lo hi : Nat) (h1 : lo ≤ hi) (h2 : hi ≤ ln) (h3 : ln < 100) (h : Heap) (n0 : Nat)  :
    Met l Z (⟨"java/util/Arrays", "rangeCheck", "(III)V"⟩ : MethodName) jdk_65_method_30_code 3 none (rmk 0 0 0 0) #[(.int (Int32.ofNat ln)), (.int (Int32.ofNat lo)), (.int (Int32.ofNat hi))] h n0 (fun v h' => v = none ∧ h = h') := by
  refine Met.of (L0 := #[.val (.int (Int32.ofNat ln)), .val (.int (Int32.ofNat lo)), .val (.int (Int32.ofNat hi))]) pn_a (own_ef rfl) ?_
  refine Wp.iloadN (pc' := 1) d6_0 rfl rfl ?_
  refine Wp.iloadN (pc' := 2) d6_1 rfl rfl ?_
  refine Wp.icmpY (pc' := 46) d6_2 (fun q => by have u2 := (own_lt (by omega) (by omega)).mp q; omega) (by decide) (by decide) ?_
  refine Wp.iloadN (pc' := 47) d6_46 rfl rfl ?_
  refine Wp.ifY (pc' := 59) d6_47 (own_nn (by omega)) (by decide) (by decide) ?_
  refine Wp.iloadN (pc' := 60) d6_59 rfl rfl ?_
  refine Wp.iloadN (pc' := 61) d6_60 rfl rfl ?_
  refine Wp.icmpY (pc' := 73) d6_61 (fun q => by have u2 := (own_lt (by omega) (by omega)).mp q; omega) (by decide) (by decide) ?_
  exact Wp.ret0 rfl d6_73 (by decide) (by decide) ⟨rfl, rfl⟩

set_option maxRecDepth 65536 in
set_option maxHeartbeats 40000000 in
theorem lpH (l : Launch) (Z : State) (a0 : Array Value) (hw : ∀ d ∈ tables_1, d.before a0 Z = true) (a : Addr) (k : ClassId) (n0 lo hi kk x : Nat) (A D res : List Nat) {Ls : List (Addr × (Cell → Prop))} (hA : A.length = lo) (hx : x < 100) :
    ∀ (q : List Nat) (g : Nat) (acc : List Nat) (hole : Nat) (h : Heap), hole = lo + q.length → (lo + q.length < 100 ∧ ∀ y ∈ q, y < 100) → Hp h n0 ((a, ArC Z k .int (own_vals (A ++ (q.reverse ++ g :: (acc ++ D))))) :: Ls) →
      (∀ (h' : Heap) (z : Int32), Hp h' n0 ((a, ArC Z k .int (own_vals (A ++ (own_ir x q acc ++ D)))) :: Ls) → Wp l Z (rmk 0 0 0 0) (⟨"java/util/DualPivotQuicksort", "insertionSort", "([III)V"⟩ : MethodName) jdk_2529_method_6_code 6 none n0 (fun v h' => v = none ∧ Hp h' n0 ((a, ArC Z k .int (own_vals res)) :: Ls)) h' 0 0 3 #[.val (.ref a), .val (.int (Int32.ofNat lo)), .val (.int (Int32.ofNat hi)), .val (.int z), .val (.int (Int32.ofNat kk)), .val (.int (Int32.ofNat x))] []) → Wp l Z (rmk 0 0 0 0) (⟨"java/util/DualPivotQuicksort", "insertionSort", "([III)V"⟩ : MethodName) jdk_2529_method_6_code 6 none n0 (fun v h' => v = none ∧ Hp h' n0 ((a, ArC Z k .int (own_vals res)) :: Ls)) h 0 0 30 #[.val (.ref a), .val (.int (Int32.ofNat lo)), .val (.int (Int32.ofNat hi)), .val (.int (Int32.ofNat hole)), .val (.int (Int32.ofNat kk)), .val (.int (Int32.ofNat x))] [] := by
  intro q
  induction q with
  | nil =>
    intro g acc hole h hh hb O K
    have hh : hole = lo := hh
    refine Wp.iinc (z := ((Int32.ofNat hole) + (-1 : Int32))) (L' := #[.val (.ref a), .val (.int (Int32.ofNat lo)), .val (.int (Int32.ofNat hi)), .val (.int ((Int32.ofNat hole) + (-1 : Int32))), .val (.int (Int32.ofNat kk)), .val (.int (Int32.ofNat x))]) (pc' := 33) d9_30 rfl rfl rfl rfl ?_
    refine Wp.iloadN (pc' := 34) d9_33 rfl rfl ?_
    refine Wp.iloadN (pc' := 35) d9_34 rfl rfl ?_
    refine Wp.icmpY (pc' := 57) d9_35 (by rw [hh]; exact own_pred (by omega)) (by decide) (by decide) ?_
    refine Wp.aloadN (pc' := 58) d9_57 rfl rfl rfl ?_
    refine Wp.iloadN (pc' := 59) d9_58 rfl rfl ?_
    refine Wp.iconst (z := (1 : Int32)) (pc' := 60) d9_59 (by decide) rfl ?_
    refine Wp.iadd (z := (Int32.ofNat hole)) (pc' := 61) d9_60 (own_m1p1 hole) rfl ?_
    refine Wp.iload (pc' := 63) d9_61 rfl rfl ?_
    refine Wp.iastore (LA := []) (jn := hole) (pc' := 64) O d9_63 (own_nn (by omega)) (own_n32 (by omega)) (by rw [own_vlen]; simp; omega) rfl ?_
    intro h1 O1
    rw [own_vset, show hole = A.length + ([] : List Nat).reverse.length from by simp; omega, own_setA] at O1
    have O1 : Hp h1 n0 ((a, ArC Z k .int (own_vals (A ++ (own_ir x [] acc ++ D)))) :: Ls) := O1
    refine Wp.goto (pc' := 3) d9_64 (by decide) (by decide) ?_
    exact K h1 _ O1
  | cons y q ih =>
    intro g acc hole h hh hb O K
    have hy : y < 100 := hb.2 y (by simp)
    have hbl := hb.1
    simp only [List.length_cons] at hh hbl
    have hb : lo + q.length < 100 ∧ ∀ y ∈ q, y < 100 := ⟨by omega, fun z hz => hb.2 z (by simp [hz])⟩
    refine Wp.iinc (z := (Int32.ofNat (lo + q.length))) (L' := #[.val (.ref a), .val (.int (Int32.ofNat lo)), .val (.int (Int32.ofNat hi)), .val (.int (Int32.ofNat (lo + q.length))), .val (.int (Int32.ofNat kk)), .val (.int (Int32.ofNat x))]) (pc' := 33) d9_30 rfl (by rw [hh]; exact own_dec _) rfl rfl ?_
    refine Wp.iloadN (pc' := 34) d9_33 rfl rfl ?_
    refine Wp.iloadN (pc' := 35) d9_34 rfl rfl ?_
    refine Wp.icmpN (pc' := 38) d9_35 (fun u => by have u2 := (own_lt (by omega) (by omega)).mp u; omega) rfl ?_
    refine Wp.iload (pc' := 40) d9_38 rfl rfl ?_
    refine Wp.aloadN (pc' := 41) d9_40 rfl rfl rfl ?_
    refine Wp.iloadN (pc' := 42) d9_41 rfl rfl ?_
    refine Wp.iaload (i := 0) (jn := (lo + q.length)) (v := (.int (Int32.ofNat y))) (pc' := 43) O rfl d9_42 (own_nn (by omega)) (own_n32 (by omega)) (own_vget (own_gety A q y g (acc ++ D) hA)) rfl ?_
    by_cases c43 : (Int32.ofNat x) < (Int32.ofNat y)
    · refine Wp.icmpN (pc' := 46) d9_43 (not_not_intro c43) rfl ?_
      have g43 : x < y := (own_lt (by omega) (by omega)).mp c43
      refine Wp.aloadN (pc' := 47) d9_46 rfl rfl rfl ?_
      refine Wp.iloadN (pc' := 48) d9_47 rfl rfl ?_
      refine Wp.iconst (z := (1 : Int32)) (pc' := 49) d9_48 (by decide) rfl ?_
      refine Wp.iadd (z := (Int32.ofNat hole)) (pc' := 50) d9_49 (by rw [hh]; exact own_one _) rfl ?_
      refine Wp.aloadN (pc' := 51) d9_50 rfl rfl rfl ?_
      refine Wp.iloadN (pc' := 52) d9_51 rfl rfl ?_
      refine Wp.iaload (i := 0) (jn := (lo + q.length)) (v := (.int (Int32.ofNat y))) (pc' := 53) O rfl d9_52 (own_nn (by omega)) (own_n32 (by omega)) (own_vget (own_gety A q y g (acc ++ D) hA)) rfl ?_
      refine Wp.iastore (LA := []) (jn := hole) (pc' := 54) O d9_53 (own_nn (by omega)) (own_n32 (by omega)) (by rw [own_vlen]; simp; omega) rfl ?_
      intro h1 O1
      rw [own_vset, show hole = A.length + (y :: q).reverse.length from by simp; omega, own_setA, own_shift] at O1
      have O1 : Hp h1 n0 ((a, ArC Z k .int (own_vals (A ++ (q.reverse ++ y :: ((y :: acc) ++ D))))) :: Ls) := O1
      refine Wp.goto (pc' := 30) d9_54 (by decide) (by decide) ?_
      exact ih y (y :: acc) (lo + q.length) h1 rfl hb O1 (by rw [← own_irY g43]; exact K)
    · refine Wp.icmpY (pc' := 57) d9_43 c43 (by decide) (by decide) ?_
      have g43 : ¬ x < y := fun u => c43 ((own_lt (by omega) (by omega)).mpr u)
      refine Wp.aloadN (pc' := 58) d9_57 rfl rfl rfl ?_
      refine Wp.iloadN (pc' := 59) d9_58 rfl rfl ?_
      refine Wp.iconst (z := (1 : Int32)) (pc' := 60) d9_59 (by decide) rfl ?_
      refine Wp.iadd (z := (Int32.ofNat hole)) (pc' := 61) d9_60 (by rw [hh]; exact own_one _) rfl ?_
      refine Wp.iload (pc' := 63) d9_61 rfl rfl ?_
      refine Wp.iastore (LA := []) (jn := hole) (pc' := 64) O d9_63 (own_nn (by omega)) (own_n32 (by omega)) (by rw [own_vlen]; simp; omega) rfl ?_
      intro h2 O2
      rw [own_vset, show hole = A.length + (y :: q).reverse.length from by simp; omega, own_setA, own_irN g43] at O2
      have O2 : Hp h2 n0 ((a, ArC Z k .int (own_vals (A ++ (own_ir x (y :: q) acc ++ D)))) :: Ls) := O2
      refine Wp.goto (pc' := 3) d9_64 (by decide) (by decide) ?_
      exact K h2 _ O2

set_option maxRecDepth 65536 in
set_option maxHeartbeats 40000000 in
theorem lpS (l : Launch) (Z : State) (a0 : Array Value) (hw : ∀ d ∈ tables_1, d.before a0 Z = true) (a : Addr) (k : ClassId) (n0 lo hi : Nat) (A D : List Nat) {Ls : List (Addr × (Cell → Prop))} (hA : A.length = lo) (hb : hi < 100) :
    ∀ (r p : List Nat) (s3 s5 : Slot) (h : Heap), 0 < p.length → hi = lo + p.length + r.length → One s3 → One s5 → (∀ z ∈ p, z < 100) → (∀ z ∈ r, z < 100) → Hp h n0 ((a, ArC Z k .int (own_vals (A ++ (p ++ (r ++ D))))) :: Ls) → Wp l Z (rmk 0 0 0 0) (⟨"java/util/DualPivotQuicksort", "insertionSort", "([III)V"⟩ : MethodName) jdk_2529_method_6_code 6 none n0 (fun v h' => v = none ∧ Hp h' n0 ((a, ArC Z k .int (own_vals (A ++ (own_so p r ++ D)))) :: Ls)) h 0 0 3 #[.val (.ref a), .val (.int (Int32.ofNat lo)), .val (.int (Int32.ofNat hi)), s3, .val (.int (Int32.ofNat (lo + p.length - 1))), s5] [] := by
  intro r
  induction r with
  | nil =>
    intro p s3 s5 h hp hhi h3 h5 hpb hrb O
    refine Wp.iinc (z := (Int32.ofNat (lo + p.length))) (L' := #[.val (.ref a), .val (.int (Int32.ofNat lo)), .val (.int (Int32.ofNat hi)), s3, .val (.int (Int32.ofNat (lo + p.length))), s5]) (pc' := 6) d9_3 rfl (own_inc hp) rfl rfl ?_
    refine Wp.iload (pc' := 8) d9_6 rfl rfl ?_
    refine Wp.iloadN (pc' := 9) d9_8 rfl rfl ?_
    refine Wp.icmpY (pc' := 67) d9_9 (fun u => by simp at hhi; have u2 := (own_lt (by omega) (by omega)).mp u; omega) (by decide) (by decide) ?_
    exact Wp.ret0 rfl d9_67 (by decide) (by decide) ⟨rfl, O⟩
  | cons x r ih =>
    intro p s3 s5 h hp hhi h3 h5 hpb hrb O
    simp only [List.length_cons] at hhi
    have hxb : x < 100 := hrb x (by simp)
    obtain ⟨y, q, hq⟩ : ∃ y q, p.reverse = y :: q := by
      cases e : p.reverse with
      | nil => have : p.reverse.length = 0 := by rw [e]; rfl
               simp at this; simp [this] at hp
      | cons y q => exact ⟨y, q, rfl⟩
    have hyb : y < 100 := hpb y (by have : y ∈ p.reverse := by rw [hq]; simp
                                    simpa using this)
    refine Wp.iinc (z := (Int32.ofNat (lo + p.length))) (L' := #[.val (.ref a), .val (.int (Int32.ofNat lo)), .val (.int (Int32.ofNat hi)), s3, .val (.int (Int32.ofNat (lo + p.length))), s5]) (pc' := 6) d9_3 rfl (own_inc hp) rfl rfl ?_
    refine Wp.iload (pc' := 8) d9_6 rfl rfl ?_
    refine Wp.iloadN (pc' := 9) d9_8 rfl rfl ?_
    refine Wp.icmpN (pc' := 12) d9_9 (not_not_intro ((own_lt (by omega) (by omega)).mpr (by omega))) rfl ?_
    refine Wp.aloadN (pc' := 13) d9_12 rfl rfl rfl ?_
    refine Wp.iload (pc' := 15) d9_13 rfl rfl ?_
    refine Wp.dup (pc' := 16) d9_15 rfl rfl ?_
    refine Wp.istoreN (L' := #[.val (.ref a), .val (.int (Int32.ofNat lo)), .val (.int (Int32.ofNat hi)), .val (.int (Int32.ofNat (lo + p.length))), .val (.int (Int32.ofNat (lo + p.length))), s5]) (pc' := 17) d9_16 (own_st rfl h3 rfl rfl) rfl ?_
    refine Wp.iaload (i := 0) (jn := (lo + p.length)) (v := (.int (Int32.ofNat x))) (pc' := 18) O rfl d9_17 (own_nn (by omega)) (own_n32 (by omega)) (own_vget (own_getx A p x (r ++ D) hA)) rfl ?_
    refine Wp.istore (L' := #[.val (.ref a), .val (.int (Int32.ofNat lo)), .val (.int (Int32.ofNat hi)), .val (.int (Int32.ofNat (lo + p.length))), .val (.int (Int32.ofNat (lo + p.length))), .val (.int (Int32.ofNat x))]) (pc' := 20) d9_18 (own_st rfl h5 rfl rfl) rfl ?_
    refine Wp.iload (pc' := 22) d9_20 rfl rfl ?_
    refine Wp.aloadN (pc' := 23) d9_22 rfl rfl rfl ?_
    refine Wp.iloadN (pc' := 24) d9_23 rfl rfl ?_
    refine Wp.iconst (z := (1 : Int32)) (pc' := 25) d9_24 (by decide) rfl ?_
    refine Wp.isub (z := (Int32.ofNat (lo + p.length - 1))) (pc' := 26) d9_25 (own_sub (j := 1) (by omega)) rfl ?_
    refine Wp.iaload (i := 0) (jn := (lo + p.length - 1)) (v := (.int (Int32.ofNat y))) (pc' := 27) O rfl d9_26 (own_nn (by omega)) (own_n32 (by omega)) (own_vget (own_getl A p q y (x :: (r ++ D)) hA hq)) rfl ?_
    by_cases c27 : (Int32.ofNat x) < (Int32.ofNat y)
    · refine Wp.icmpN (pc' := 30) d9_27 (not_not_intro c27) rfl ?_
      have g27 : x < y := (own_lt (by omega) (by omega)).mp c27
      have O2 : Hp h n0 ((a, ArC Z k .int (own_vals (A ++ ((p.reverse).reverse ++ x :: ([] ++ (r ++ D)))))) :: Ls) := by simpa using O
      refine lpH l Z a0 hw a k n0 lo hi (lo + p.length) x A (r ++ D) (A ++ (own_so p (x :: r) ++ D)) hA (hrb x (by simp)) p.reverse x [] (lo + p.length) h (by simp) ⟨by simp; omega, fun z hz => hpb z (by simpa using hz)⟩ O2 ?_
      intro h' z O3
      have pl : (own_ir x p.reverse []).length = p.length + 1 := by rw [own_irlen]; simp
      have IH := ih (own_ir x p.reverse []) (.val (.int z)) (.val (.int (Int32.ofNat x))) h' (by omega) (by rw [pl]; omega) (One.val rfl) (One.val rfl) (own_irb (hrb x (by simp)) (fun z hz => hpb z (by simpa using hz))) (fun z hz => hrb z (by simp [hz])) O3
      rw [pl, show lo + (p.length + 1) - 1 = lo + p.length from by omega] at IH
      exact IH
    · refine Wp.icmpY (pc' := 64) d9_27 c27 (by decide) (by decide) ?_
      have g27 : ¬ x < y := fun u => c27 ((own_lt (by omega) (by omega)).mpr u)
      refine Wp.goto (pc' := 3) d9_64 (by decide) (by decide) ?_
      have e1 : own_ir x p.reverse [] = p ++ [x] := by rw [hq, own_irN' g27, ← hq, List.reverse_reverse]
      rw [show own_so p (x :: r) = own_so (p ++ [x]) r from by rw [own_so, e1]]
      have O2 : Hp h n0 ((a, ArC Z k .int (own_vals (A ++ ((p ++ [x]) ++ (r ++ D))))) :: Ls) := by simpa using O
      have IH := ih (p ++ [x]) (.val (.int (Int32.ofNat (lo + p.length)))) (.val (.int (Int32.ofNat x))) h (by simp) (by simp only [List.length_append, List.length_cons, List.length_nil] at hhi ⊢; omega) (One.val rfl) (One.val rfl) (fun z hz => by rcases List.mem_append.mp hz with u | u; exact hpb z u; exact hrb z (by simp at u; simp [u])) (fun z hz => hrb z (by simp [hz])) O2
      rw [show lo + (p ++ [x]).length - 1 = lo + p.length from by simp only [List.length_append, List.length_cons, List.length_nil]; omega] at IH
      exact IH

set_option maxRecDepth 65536 in
set_option maxHeartbeats 40000000 in
theorem rm_ins (l : Launch) (Z : State) (a0 : Array Value) (hw : ∀ d ∈ tables_1, d.before a0 Z = true) (a : Addr) (k : ClassId) (lo : Nat) (A s D : List Nat) (h : Heap) (n0 : Nat) {Ls : List (Addr × (Cell → Prop))} (O : Hp h n0 ((a, ArC Z k .int (own_vals (A ++ (s ++ D)))) :: Ls)) (hA : A.length = lo) (hb : lo + s.length < 100) (hs : ∀ z ∈ s, z < 100) :
    Met l Z (⟨"java/util/DualPivotQuicksort", "insertionSort", "([III)V"⟩ : MethodName) jdk_2529_method_6_code 6 none (rmk 0 0 0 0) #[(.ref a), (.int (Int32.ofNat lo)), (.int (Int32.ofNat (lo + s.length)))] h n0 (fun v h' => v = none ∧ Hp h' n0 ((a, ArC Z k .int (own_vals (A ++ (own_sort s ++ D)))) :: Ls)) := by
  refine Met.of (L0 := #[.val (.ref a), .val (.int (Int32.ofNat lo)), .val (.int (Int32.ofNat (lo + s.length))), .unset, .unset, .unset]) pn_q (own_ef rfl) ?_
  refine Wp.iloadN (pc' := 1) d9_0 rfl rfl ?_
  refine Wp.istore (L' := #[.val (.ref a), .val (.int (Int32.ofNat lo)), .val (.int (Int32.ofNat (lo + s.length))), .unset, .val (.int (Int32.ofNat lo)), .unset]) (pc' := 3) d9_1 rfl rfl ?_
  cases s with
  | nil =>
    refine Wp.iinc (z := (Int32.ofNat (lo + 1))) (L' := #[.val (.ref a), .val (.int (Int32.ofNat lo)), .val (.int (Int32.ofNat (lo + ([] : List Nat).length))), .unset, .val (.int (Int32.ofNat (lo + 1))), .unset]) (pc' := 6) d9_3 rfl (own_one lo) rfl rfl ?_
    refine Wp.iload (pc' := 8) d9_6 rfl rfl ?_
    refine Wp.iloadN (pc' := 9) d9_8 rfl rfl ?_
    refine Wp.icmpY (pc' := 67) d9_9 (fun u => by have u2 := (own_lt (by omega) (by simp; omega)).mp u; simp only [List.length_nil] at u2; omega) (by decide) (by decide) ?_
    exact Wp.ret0 rfl d9_67 (by decide) (by decide) ⟨rfl, O⟩
  | cons x r =>
    have IH := lpS l Z a0 hw a k n0 lo (lo + (x :: r).length) A D hA hb r [x] .unset .unset h (by simp) (by simp; omega) One.u One.u (fun z hz => hs z (by simp at hz; simp [hz])) (fun z hz => hs z (by simp [hz])) (by simpa using O)
    exact IH

set_option maxRecDepth 65536 in
set_option maxHeartbeats 40000000 in
theorem rm_s2 (l : Launch) (Z : State) (a0 : Array Value) (hw : ∀ d ∈ tables_1, d.before a0 Z = true) (a : Addr) (k : ClassId) (lo : Nat) (A s D : List Nat) (hs65 : s.length < 65) (hs44 : s.length < 44) (h : Heap) (n0 : Nat) {Ls : List (Addr × (Cell → Prop))} (O : Hp h n0 ((a, ArC Z k .int (own_vals (A ++ (s ++ D)))) :: Ls)) (hA : A.length = lo) (hb : lo + s.length < 100) (hs : ∀ z ∈ s, z < 100) :
    Met l Z (⟨"java/util/DualPivotQuicksort", "sort", "(Ljava/util/DualPivotQuicksort$Sorter;[IIII)V"⟩ : MethodName) jdk_2529_method_4_code 21 none (rmk 1 0 0 17) #[.null, (.ref a), (.int (0 : Int32)), (.int (Int32.ofNat lo)), (.int (Int32.ofNat (lo + s.length)))] h n0 (fun v h' => v = none ∧ Hp h' n0 ((a, ArC Z k .int (own_vals (A ++ (own_sort s ++ D)))) :: Ls)) := by
  refine Met.of (L0 := #[.val .null, .val (.ref a), .val (.int (0 : Int32)), .val (.int (Int32.ofNat lo)), .val (.int (Int32.ofNat (lo + s.length))), .unset, .unset, .unset, .unset, .unset, .unset, .unset, .unset, .unset, .unset, .unset, .unset, .unset, .unset, .unset, .unset]) pn_q (own_ef rfl) ?_
  refine Wp.iload (pc' := 2) d8_0 rfl rfl ?_
  refine Wp.iconst (z := (1 : Int32)) (pc' := 3) d8_2 (by decide) rfl ?_
  refine Wp.isub (z := ((Int32.ofNat (lo + s.length)) - (1 : Int32))) (pc' := 4) d8_3 rfl rfl ?_
  refine Wp.istore (L' := #[.val .null, .val (.ref a), .val (.int (0 : Int32)), .val (.int (Int32.ofNat lo)), .val (.int (Int32.ofNat (lo + s.length))), .val (.int ((Int32.ofNat (lo + s.length)) - (1 : Int32))), .unset, .unset, .unset, .unset, .unset, .unset, .unset, .unset, .unset, .unset, .unset, .unset, .unset, .unset, .unset]) (pc' := 6) d8_4 rfl rfl ?_
  refine Wp.iload (pc' := 8) d8_6 rfl rfl ?_
  refine Wp.iloadN (pc' := 9) d8_8 rfl rfl ?_
  refine Wp.isub (z := (Int32.ofNat s.length)) (pc' := 10) d8_9 (by rw [own_sub (by omega), Nat.add_sub_cancel_left]) rfl ?_
  refine Wp.istore (L' := #[.val .null, .val (.ref a), .val (.int (0 : Int32)), .val (.int (Int32.ofNat lo)), .val (.int (Int32.ofNat (lo + s.length))), .val (.int ((Int32.ofNat (lo + s.length)) - (1 : Int32))), .val (.int (Int32.ofNat s.length)), .unset, .unset, .unset, .unset, .unset, .unset, .unset, .unset, .unset, .unset, .unset, .unset, .unset, .unset]) (pc' := 12) d8_10 rfl rfl ?_
  refine Wp.iload (pc' := 14) d8_12 rfl rfl ?_
  refine Wp.bipush (z := (65 : Int32)) (pc' := 16) d8_14 (by decide) rfl ?_
  refine Wp.iloadN (pc' := 17) d8_16 rfl rfl ?_
  refine Wp.iadd (z := (65 : Int32)) (pc' := 18) d8_17 (by decide) rfl ?_
  refine Wp.icmpN (pc' := 21) d8_18 (not_not_intro ((own_lt (n := 65) (by omega) (by omega)).mpr hs65)) rfl ?_
  refine Wp.iloadN (pc' := 22) d8_21 rfl rfl ?_
  refine Wp.iconst (z := (1 : Int32)) (pc' := 23) d8_22 (by decide) rfl ?_
  refine Wp.iand (z := ((0 : Int32) &&& (1 : Int32))) (pc' := 24) d8_23 rfl rfl ?_
  refine Wp.ifY (pc' := 46) d8_24 (by decide) (by decide) (by decide) ?_
  refine Wp.iload (pc' := 48) d8_46 rfl rfl ?_
  refine Wp.bipush (z := (44 : Int32)) (pc' := 50) d8_48 (by decide) rfl ?_
  refine Wp.icmpN (pc' := 53) d8_50 (not_not_intro ((own_lt (n := 44) (by omega) (by omega)).mpr hs44)) rfl ?_
  refine Wp.aloadN (pc' := 54) d8_53 rfl rfl rfl ?_
  refine Wp.iloadN (pc' := 55) d8_54 rfl rfl ?_
  refine Wp.iload (pc' := 57) d8_55 rfl rfl ?_
  refine Wp.callS (yy := (⟨"java/util/DualPivotQuicksort", "insertionSort", "([III)V"⟩ : MethodName)) (pc' := 60) (argsL := [(.ref a), (.int (Int32.ofNat lo)), (.int (Int32.ofNat (lo + s.length)))]) (S := []) (rm_ins l Z a0 hw a k lo A s D h n0 O hA hb hs) (hw _ (List.mem_of_getElem? (i := 37) rfl)) (hw _ (List.mem_of_getElem? (i := 38) rfl)) (hw _ (List.mem_of_getElem? (i := 32) rfl)) (hw _ (List.mem_of_getElem? (i := 39) rfl)) (by decide) (W := 0) rfl (lenOf pd_1 rfl) rfl rfl (Nat.le_refl 0) (by decide) (by decide) (by decide) (by decide) d8_57 rfl ?_
  rintro _ h1 ⟨rfl, O1⟩
  have O1 : Hp h1 n0 ((a, ArC Z k .int (own_vals (A ++ (own_sort s ++ D)))) :: Ls) := O1
  show Wp _ _ _ _ _ _ _ _ _ _ _ _ 60 #[.val .null, .val (.ref a), .val (.int (0 : Int32)), .val (.int (Int32.ofNat lo)), .val (.int (Int32.ofNat (lo + s.length))), .val (.int ((Int32.ofNat (lo + s.length)) - (1 : Int32))), .val (.int (Int32.ofNat s.length)), .unset, .unset, .unset, .unset, .unset, .unset, .unset, .unset, .unset, .unset, .unset, .unset, .unset, .unset] []
  exact Wp.ret0 rfl d8_60 (by decide) (by decide) ⟨rfl, O1⟩

set_option maxRecDepth 65536 in
set_option maxHeartbeats 40000000 in
theorem rm_s1 (l : Launch) (Z : State) (a0 : Array Value) (hw : ∀ d ∈ tables_1, d.before a0 Z = true) (a : Addr) (k : ClassId) (lo : Nat) (A s D : List Nat) (hs44 : s.length < 44) (h : Heap) (n0 : Nat) {Ls : List (Addr × (Cell → Prop))} (O : Hp h n0 ((a, ArC Z k .int (own_vals (A ++ (s ++ D)))) :: Ls)) (hA : A.length = lo) (hb : lo + s.length < 100) (hs : ∀ z ∈ s, z < 100) :
    Met l Z (⟨"java/util/DualPivotQuicksort", "sort", "([IIII)V"⟩ : MethodName) jdk_2529_method_3_code 7 none (rmk 2 0 0 49) #[(.ref a), (.int (0 : Int32)), (.int (Int32.ofNat lo)), (.int (Int32.ofNat (lo + s.length)))] h n0 (fun v h' => v = none ∧ Hp h' n0 ((a, ArC Z k .int (own_vals (A ++ (own_sort s ++ D)))) :: Ls)) := by
  refine Met.of (L0 := #[.val (.ref a), .val (.int (0 : Int32)), .val (.int (Int32.ofNat lo)), .val (.int (Int32.ofNat (lo + s.length))), .unset, .unset, .unset]) pn_q (own_ef rfl) ?_
  refine Wp.iloadN (pc' := 1) d7_0 rfl rfl ?_
  refine Wp.iloadN (pc' := 2) d7_1 rfl rfl ?_
  refine Wp.isub (z := ((Int32.ofNat (lo + s.length)) - (Int32.ofNat lo))) (pc' := 3) d7_2 rfl rfl ?_
  refine Wp.istore (L' := #[.val (.ref a), .val (.int (0 : Int32)), .val (.int (Int32.ofNat lo)), .val (.int (Int32.ofNat (lo + s.length))), .val (.int ((Int32.ofNat (lo + s.length)) - (Int32.ofNat lo))), .unset, .unset]) (pc' := 5) d7_3 rfl rfl ?_
  refine Wp.iloadN (pc' := 6) d7_5 rfl rfl ?_
  refine Wp.iconst (z := (1 : Int32)) (pc' := 7) d7_6 (by decide) rfl ?_
  refine Wp.icmpY (pc' := 68) d7_7 (by decide) (by decide) (by decide) ?_
  refine Wp.aconstNull (pc' := 69) d7_68 rfl ?_
  refine Wp.aloadN (pc' := 70) d7_69 rfl rfl rfl ?_
  refine Wp.iconst (z := (0 : Int32)) (pc' := 71) d7_70 (by decide) rfl ?_
  refine Wp.iloadN (pc' := 72) d7_71 rfl rfl ?_
  refine Wp.iloadN (pc' := 73) d7_72 rfl rfl ?_
  refine Wp.callS (yy := (⟨"java/util/DualPivotQuicksort", "sort", "(Ljava/util/DualPivotQuicksort$Sorter;[IIII)V"⟩ : MethodName)) (pc' := 76) (argsL := [.null, (.ref a), (.int (0 : Int32)), (.int (Int32.ofNat lo)), (.int (Int32.ofNat (lo + s.length)))]) (S := []) (rm_s2 l Z a0 hw a k lo A s D (by omega) hs44 h n0 O hA hb hs) (hw _ (List.mem_of_getElem? (i := 34) rfl)) (hw _ (List.mem_of_getElem? (i := 35) rfl)) (hw _ (List.mem_of_getElem? (i := 32) rfl)) (hw _ (List.mem_of_getElem? (i := 36) rfl)) (by decide) (W := 0) rfl (lenOf pd_2 rfl) rfl rfl (Nat.le_refl 0) (by decide) (by decide) (by decide) (by decide) d7_73 rfl ?_
  rintro _ h1 ⟨rfl, O1⟩
  have O1 : Hp h1 n0 ((a, ArC Z k .int (own_vals (A ++ (own_sort s ++ D)))) :: Ls) := O1
  show Wp _ _ _ _ _ _ _ _ _ _ _ _ 76 #[.val (.ref a), .val (.int (0 : Int32)), .val (.int (Int32.ofNat lo)), .val (.int (Int32.ofNat (lo + s.length))), .val (.int ((Int32.ofNat (lo + s.length)) - (Int32.ofNat lo))), .unset, .unset] []
  exact Wp.ret0 rfl d7_76 (by decide) (by decide) ⟨rfl, O1⟩

set_option maxRecDepth 65536 in
set_option maxHeartbeats 40000000 in
theorem rm_srt (l : Launch) (Z : State) (a0 : Array Value) (hw : ∀ d ∈ tables_1, d.before a0 Z = true) (a : Addr) (k : ClassId) (lo : Nat) (A s D : List Nat) (hs44 : s.length < 44) (hD : lo + s.length + D.length < 100) (h : Heap) (n0 : Nat) {Ls : List (Addr × (Cell → Prop))} (O : Hp h n0 ((a, ArC Z k .int (own_vals (A ++ (s ++ D)))) :: Ls)) (hA : A.length = lo) (hb : lo + s.length < 100) (hs : ∀ z ∈ s, z < 100) :
    Met l Z (⟨"java/util/Arrays", "sort", "([III)V"⟩ : MethodName) jdk_65_method_3_code 3 none (rmk 3 0 0 67) #[(.ref a), (.int (Int32.ofNat lo)), (.int (Int32.ofNat (lo + s.length)))] h n0 (fun v h' => v = none ∧ Hp h' n0 ((a, ArC Z k .int (own_vals (A ++ (own_sort s ++ D)))) :: Ls)) := by
  refine Met.of (L0 := #[.val (.ref a), .val (.int (Int32.ofNat lo)), .val (.int (Int32.ofNat (lo + s.length)))]) pn_a (own_ef rfl) ?_
  refine Wp.aloadN (pc' := 1) d5_0 rfl rfl rfl ?_
  refine Wp.arrlen (i := 0) (z := (Int32.ofNat (A ++ (s ++ D)).length)) (pc' := 2) O rfl d5_1 (by rw [own_vlen]) rfl ?_
  refine Wp.iloadN (pc' := 3) d5_2 rfl rfl ?_
  refine Wp.iloadN (pc' := 4) d5_3 rfl rfl ?_
  have hlen : (A ++ (s ++ D)).length = lo + s.length + D.length := by simp; omega
  refine Wp.callS (yy := (⟨"java/util/Arrays", "rangeCheck", "(III)V"⟩ : MethodName)) (pc' := 7) (argsL := [(.int (Int32.ofNat (A ++ (s ++ D)).length)), (.int (Int32.ofNat lo)), (.int (Int32.ofNat (lo + s.length)))]) (S := []) (rm_rng l Z a0 hw (A ++ (s ++ D)).length lo (lo + s.length) (by omega) (by omega) (by omega) h n0) (hw _ (List.mem_of_getElem? (i := 27) rfl)) (hw _ (List.mem_of_getElem? (i := 28) rfl)) (hw _ (List.mem_of_getElem? (i := 14) rfl)) (hw _ (List.mem_of_getElem? (i := 29) rfl)) (by decide) (W := 0) rfl (lenOf pd_3 rfl) rfl rfl (Nat.le_refl 0) (by decide) (by decide) (by decide) (by decide) d5_4 rfl ?_
  rintro _ _ ⟨rfl, rfl⟩
  show Wp _ _ _ _ _ _ _ _ _ _ _ _ 7 #[.val (.ref a), .val (.int (Int32.ofNat lo)), .val (.int (Int32.ofNat (lo + s.length)))] []
  refine Wp.aloadN (pc' := 8) d5_7 rfl rfl rfl ?_
  refine Wp.iconst (z := (0 : Int32)) (pc' := 9) d5_8 (by decide) rfl ?_
  refine Wp.iloadN (pc' := 10) d5_9 rfl rfl ?_
  refine Wp.iloadN (pc' := 11) d5_10 rfl rfl ?_
  refine Wp.callS (yy := (⟨"java/util/DualPivotQuicksort", "sort", "([IIII)V"⟩ : MethodName)) (pc' := 14) (argsL := [(.ref a), (.int (0 : Int32)), (.int (Int32.ofNat lo)), (.int (Int32.ofNat (lo + s.length)))]) (S := []) (rm_s1 l Z a0 hw a k lo A s D hs44 h n0 O hA hb hs) (hw _ (List.mem_of_getElem? (i := 30) rfl)) (hw _ (List.mem_of_getElem? (i := 31) rfl)) (hw _ (List.mem_of_getElem? (i := 32) rfl)) (hw _ (List.mem_of_getElem? (i := 33) rfl)) (by decide) (W := 0) rfl (lenOf pd_4 rfl) rfl rfl (Nat.le_refl 0) (by decide) (by decide) (by decide) (by decide) d5_11 rfl ?_
  rintro _ h1 ⟨rfl, O1⟩
  have O1 : Hp h1 n0 ((a, ArC Z k .int (own_vals (A ++ (own_sort s ++ D)))) :: Ls) := O1
  show Wp _ _ _ _ _ _ _ _ _ _ _ _ 14 #[.val (.ref a), .val (.int (Int32.ofNat lo)), .val (.int (Int32.ofNat (lo + s.length)))] []
  exact Wp.ret0 rfl d5_14 (by decide) (by decide) ⟨rfl, O1⟩

set_option maxRecDepth 65536 in
set_option maxHeartbeats 40000000 in
theorem rm_dup (l : Launch) (Z : State) (a0 : Array Value) (hw : ∀ d ∈ tables_1, d.before a0 Z = true) (F T : Addr) (kf kt : ClassId) (fl tl : List Nat) (hfl : fl.length = 4) (htl : tl.length = 4) (hfb : ∀ i, fl.getD i 0 < 100) (htb : ∀ i, tl.getD i 0 < 100) (i j : Nat) (hi : i < 4) (hj : j < 4) (h : Heap) (n0 : Nat) {Ls : List (Addr × (Cell → Prop))} (O : Hp h n0 ((F, ArC Z kf .int (own_vals fl)) :: (T, ArC Z kt .int (own_vals tl)) :: Ls)) :
    Met l Z (⟨"com/example/frugal_retrieval/frugalretrieval/index/LinkGraphOutDegreePinLaw", "dup", "(II[I[I)Z"⟩ : MethodName) method_2_code 4 (some .boolean) (rmk 0 0 0 0) #[(.int (Int32.ofNat i)), (.int (Int32.ofNat j)), (.ref F), (.ref T)] h n0 (fun v h' => v = some (.int (Int32.ofNat (own_dup i j (fl.getD · 0) (tl.getD · 0)))) ∧ h = h') := by
  refine Met.of (L0 := #[.val (.int (Int32.ofNat i)), .val (.int (Int32.ofNat j)), .val (.ref F), .val (.ref T)]) pn_l (own_ef rfl) ?_
  refine Wp.iloadN (pc' := 1) d13_0 rfl rfl ?_
  refine Wp.iloadN (pc' := 2) d13_1 rfl rfl ?_
  by_cases c2 : (Int32.ofNat i) < (Int32.ofNat j)
  · refine Wp.icmpN (pc' := 5) d13_2 (not_not_intro c2) rfl ?_
    have g2 : i < j := (own_lt (by omega) (by omega)).mp c2
    refine Wp.aloadN (pc' := 6) d13_5 rfl rfl rfl ?_
    refine Wp.iloadN (pc' := 7) d13_6 rfl rfl ?_
    refine Wp.iaload (i := 0) (jn := i) (v := (.int (Int32.ofNat (fl.getD i 0)))) (pc' := 8) O rfl d13_7 (own_nn (by omega)) (own_n32 (by omega)) (own_vget (own_gd (xs := fl) (by omega))) rfl ?_
    refine Wp.aloadN (pc' := 9) d13_8 rfl rfl rfl ?_
    refine Wp.iloadN (pc' := 10) d13_9 rfl rfl ?_
    refine Wp.iaload (i := 0) (jn := j) (v := (.int (Int32.ofNat (fl.getD j 0)))) (pc' := 11) O rfl d13_10 (own_nn (by omega)) (own_n32 (by omega)) (own_vget (own_gd (xs := fl) (by omega))) rfl ?_
    by_cases c11 : (Int32.ofNat (fl.getD i 0)) = (Int32.ofNat (fl.getD j 0))
    · refine Wp.icmpN (pc' := 14) d13_11 (not_not_intro c11) rfl ?_
      have g11 : fl.getD i 0 = fl.getD j 0 := (own_inj (by have := hfb i; omega) (by have := hfb j; omega)).mp c11
      refine Wp.aloadN (pc' := 15) d13_14 rfl rfl rfl ?_
      refine Wp.iloadN (pc' := 16) d13_15 rfl rfl ?_
      refine Wp.iaload (i := 1) (jn := i) (v := (.int (Int32.ofNat (tl.getD i 0)))) (pc' := 17) O rfl d13_16 (own_nn (by omega)) (own_n32 (by omega)) (own_vget (own_gd (xs := tl) (by omega))) rfl ?_
      refine Wp.aloadN (pc' := 18) d13_17 rfl rfl rfl ?_
      refine Wp.iloadN (pc' := 19) d13_18 rfl rfl ?_
      refine Wp.iaload (i := 1) (jn := j) (v := (.int (Int32.ofNat (tl.getD j 0)))) (pc' := 20) O rfl d13_19 (own_nn (by omega)) (own_n32 (by omega)) (own_vget (own_gd (xs := tl) (by omega))) rfl ?_
      by_cases c20 : (Int32.ofNat (tl.getD i 0)) = (Int32.ofNat (tl.getD j 0))
      · refine Wp.icmpN (pc' := 23) d13_20 (not_not_intro c20) rfl ?_
        have g20 : tl.getD i 0 = tl.getD j 0 := (own_inj (by have := htb i; omega) (by have := htb j; omega)).mp c20
        refine Wp.iconst (z := (1 : Int32)) (pc' := 24) d13_23 (by decide) rfl ?_
        refine Wp.goto (pc' := 28) d13_24 (by decide) (by decide) ?_
        exact Wp.retS (t := .boolean) rfl (Or.inl rfl) rfl d13_28 (by decide) (by decide) ⟨by rw [own_dup, if_pos g2, if_pos g11, if_pos g20]; rfl, rfl⟩
      · refine Wp.icmpY (pc' := 27) d13_20 c20 (by decide) (by decide) ?_
        have g20 : ¬ tl.getD i 0 = tl.getD j 0 := fun q => c20 (by rw [q])
        refine Wp.iconst (z := (0 : Int32)) (pc' := 28) d13_27 (by decide) rfl ?_
        exact Wp.retS (t := .boolean) rfl (Or.inl rfl) rfl d13_28 (by decide) (by decide) ⟨by rw [own_dup, if_pos g2, if_pos g11, if_neg g20]; rfl, rfl⟩
    · refine Wp.icmpY (pc' := 27) d13_11 c11 (by decide) (by decide) ?_
      have g11 : ¬ fl.getD i 0 = fl.getD j 0 := fun q => c11 (by rw [q])
      refine Wp.iconst (z := (0 : Int32)) (pc' := 28) d13_27 (by decide) rfl ?_
      exact Wp.retS (t := .boolean) rfl (Or.inl rfl) rfl d13_28 (by decide) (by decide) ⟨by rw [own_dup, if_pos g2, if_neg g11]; rfl, rfl⟩
  · refine Wp.icmpY (pc' := 27) d13_2 c2 (by decide) (by decide) ?_
    have g2 : ¬ i < j := fun q => c2 ((own_lt (by omega) (by omega)).mpr q)
    refine Wp.iconst (z := (0 : Int32)) (pc' := 28) d13_27 (by decide) rfl ?_
    exact Wp.retS (t := .boolean) rfl (Or.inl rfl) rfl d13_28 (by decide) (by decide) ⟨by rw [own_dup, if_neg g2]; rfl, rfl⟩

set_option maxRecDepth 65536 in
set_option maxHeartbeats 40000000 in
theorem rm_slot (l : Launch) (Z : State) (a0 : Array Value) (hw : ∀ d ∈ tables_1, d.before a0 Z = true) (F T : Addr) (kf kt : ClassId) (fl tl : List Nat) (hfl : fl.length = 4) (htl : tl.length = 4) (hfb : ∀ i, fl.getD i 0 < 100) (htb : ∀ i, tl.getD i 0 < 100) (j kk d : Nat) (hj : j < 4) (hkk : kk < 5) (hd : d < 5) (h : Heap) (n0 : Nat) {Ls : List (Addr × (Cell → Prop))} (O : Hp h n0 ((F, ArC Z kf .int (own_vals fl)) :: (T, ArC Z kt .int (own_vals tl)) :: Ls)) :
    Met l Z (⟨"com/example/frugal_retrieval/frugalretrieval/index/LinkGraphOutDegreePinLaw", "slot", "(III[I[I)I"⟩ : MethodName) method_3_code 5 (some .int) (rmk 1 0 0 19) #[(.int (Int32.ofNat j)), (.int (Int32.ofNat kk)), (.int (Int32.ofNat d)), (.ref F), (.ref T)] h n0 (fun v h' => v = some (.int (Int32.ofNat (own_slot j kk d (fl.getD · 0) (tl.getD · 0)))) ∧ h = h') := by
  refine Met.of (L0 := #[.val (.int (Int32.ofNat j)), .val (.int (Int32.ofNat kk)), .val (.int (Int32.ofNat d)), .val (.ref F), .val (.ref T)]) pn_l (own_ef rfl) ?_
  refine Wp.iloadN (pc' := 1) d0_0 rfl rfl ?_
  refine Wp.iloadN (pc' := 2) d0_1 rfl rfl ?_
  by_cases c2 : (Int32.ofNat j) < (Int32.ofNat kk)
  · refine Wp.icmpN (pc' := 5) d0_2 (not_not_intro c2) rfl ?_
    have g2 : j < kk := (own_lt (by omega) (by omega)).mp c2
    refine Wp.aloadN (pc' := 6) d0_5 rfl rfl rfl ?_
    refine Wp.iloadN (pc' := 7) d0_6 rfl rfl ?_
    refine Wp.iaload (i := 0) (jn := j) (v := (.int (Int32.ofNat (fl.getD j 0)))) (pc' := 8) O rfl d0_7 (own_nn (by omega)) (own_n32 (by omega)) (own_vget (own_gd (xs := fl) (by omega))) rfl ?_
    refine Wp.iloadN (pc' := 9) d0_8 rfl rfl ?_
    by_cases c9 : (Int32.ofNat (fl.getD j 0)) = (Int32.ofNat d)
    · refine Wp.icmpY (pc' := 14) d0_9 c9 (by decide) (by decide) ?_
      have g9 : fl.getD j 0 = d := (own_inj (by have := hfb j; omega) (by omega)).mp c9
      refine Wp.iconst (z := (0 : Int32)) (pc' := 15) d0_14 (by decide) rfl ?_
      refine Wp.iloadN (pc' := 16) d0_15 rfl rfl ?_
      refine Wp.aloadN (pc' := 17) d0_16 rfl rfl rfl ?_
      refine Wp.aload (pc' := 19) d0_17 rfl rfl rfl ?_
      refine Wp.callS (yy := (⟨"com/example/frugal_retrieval/frugalretrieval/index/LinkGraphOutDegreePinLaw", "dup", "(II[I[I)Z"⟩ : MethodName)) (pc' := 22) (argsL := [(.int (0 : Int32)), (.int (Int32.ofNat j)), (.ref F), (.ref T)]) (S := []) (rm_dup l Z a0 hw F T kf kt fl tl hfl htl hfb htb 0 j (by omega) hj h n0 O) (hw _ (List.mem_of_getElem? (i := 66) rfl)) (hw _ (List.mem_of_getElem? (i := 67) rfl)) (hw _ (List.mem_of_getElem? (i := 3) rfl)) (hw _ (List.mem_of_getElem? (i := 68) rfl)) (by decide) (W := 0) rfl (lenOf pd_5 rfl) rfl rfl (Nat.le_refl 0) (by decide) (by decide) (by decide) (by decide) d0_19 rfl ?_
      rintro _ _ ⟨rfl, rfl⟩
      show Wp _ _ _ _ _ _ _ _ _ _ _ _ 22 #[.val (.int (Int32.ofNat j)), .val (.int (Int32.ofNat kk)), .val (.int (Int32.ofNat d)), .val (.ref F), .val (.ref T)] [(.int (Int32.ofNat (own_dup 0 j (fl.getD · 0) (tl.getD · 0))))]
      by_cases c22 : (Int32.ofNat (own_dup 0 j (fl.getD · 0) (tl.getD · 0))) = 0
      · refine Wp.ifN (pc' := 25) d0_22 (not_not_intro c22) rfl ?_
        have k0 : own_dup 0 j (fl.getD · 0) (tl.getD · 0) = 0 := (own_inj (n := 0) (own_dupb _ _ _ _) (by omega)).mp c22
        refine Wp.iconst (z := (1 : Int32)) (pc' := 26) d0_25 (by decide) rfl ?_
        refine Wp.iloadN (pc' := 27) d0_26 rfl rfl ?_
        refine Wp.aloadN (pc' := 28) d0_27 rfl rfl rfl ?_
        refine Wp.aload (pc' := 30) d0_28 rfl rfl rfl ?_
        refine Wp.callS (yy := (⟨"com/example/frugal_retrieval/frugalretrieval/index/LinkGraphOutDegreePinLaw", "dup", "(II[I[I)Z"⟩ : MethodName)) (pc' := 33) (argsL := [(.int (1 : Int32)), (.int (Int32.ofNat j)), (.ref F), (.ref T)]) (S := []) (rm_dup l Z a0 hw F T kf kt fl tl hfl htl hfb htb 1 j (by omega) hj h n0 O) (hw _ (List.mem_of_getElem? (i := 66) rfl)) (hw _ (List.mem_of_getElem? (i := 67) rfl)) (hw _ (List.mem_of_getElem? (i := 3) rfl)) (hw _ (List.mem_of_getElem? (i := 68) rfl)) (by decide) (W := 0) rfl (lenOf pd_5 rfl) rfl rfl (Nat.le_refl 0) (by decide) (by decide) (by decide) (by decide) d0_30 rfl ?_
        rintro _ _ ⟨rfl, rfl⟩
        show Wp _ _ _ _ _ _ _ _ _ _ _ _ 33 #[.val (.int (Int32.ofNat j)), .val (.int (Int32.ofNat kk)), .val (.int (Int32.ofNat d)), .val (.ref F), .val (.ref T)] [(.int (Int32.ofNat (own_dup 1 j (fl.getD · 0) (tl.getD · 0))))]
        by_cases c33 : (Int32.ofNat (own_dup 1 j (fl.getD · 0) (tl.getD · 0))) = 0
        · refine Wp.ifN (pc' := 36) d0_33 (not_not_intro c33) rfl ?_
          have k1 : own_dup 1 j (fl.getD · 0) (tl.getD · 0) = 0 := (own_inj (n := 0) (own_dupb _ _ _ _) (by omega)).mp c33
          refine Wp.iconst (z := (2 : Int32)) (pc' := 37) d0_36 (by decide) rfl ?_
          refine Wp.iloadN (pc' := 38) d0_37 rfl rfl ?_
          refine Wp.aloadN (pc' := 39) d0_38 rfl rfl rfl ?_
          refine Wp.aload (pc' := 41) d0_39 rfl rfl rfl ?_
          refine Wp.callS (yy := (⟨"com/example/frugal_retrieval/frugalretrieval/index/LinkGraphOutDegreePinLaw", "dup", "(II[I[I)Z"⟩ : MethodName)) (pc' := 44) (argsL := [(.int (2 : Int32)), (.int (Int32.ofNat j)), (.ref F), (.ref T)]) (S := []) (rm_dup l Z a0 hw F T kf kt fl tl hfl htl hfb htb 2 j (by omega) hj h n0 O) (hw _ (List.mem_of_getElem? (i := 66) rfl)) (hw _ (List.mem_of_getElem? (i := 67) rfl)) (hw _ (List.mem_of_getElem? (i := 3) rfl)) (hw _ (List.mem_of_getElem? (i := 68) rfl)) (by decide) (W := 0) rfl (lenOf pd_5 rfl) rfl rfl (Nat.le_refl 0) (by decide) (by decide) (by decide) (by decide) d0_41 rfl ?_
          rintro _ _ ⟨rfl, rfl⟩
          show Wp _ _ _ _ _ _ _ _ _ _ _ _ 44 #[.val (.int (Int32.ofNat j)), .val (.int (Int32.ofNat kk)), .val (.int (Int32.ofNat d)), .val (.ref F), .val (.ref T)] [(.int (Int32.ofNat (own_dup 2 j (fl.getD · 0) (tl.getD · 0))))]
          by_cases c44 : (Int32.ofNat (own_dup 2 j (fl.getD · 0) (tl.getD · 0))) = 0
          · refine Wp.ifY (pc' := 49) d0_44 c44 (by decide) (by decide) ?_
            have k2 : own_dup 2 j (fl.getD · 0) (tl.getD · 0) = 0 := (own_inj (n := 0) (own_dupb _ _ _ _) (by omega)).mp c44
            refine Wp.iconst (z := (1 : Int32)) (pc' := 50) d0_49 (by decide) rfl ?_
            exact Wp.retI rfl d0_50 (by decide) (by decide) ⟨by rw [own_slot, if_pos g2, if_pos g9, if_pos k0, if_pos k1, if_pos k2]; rfl, rfl⟩
          · refine Wp.ifN (pc' := 47) d0_44 c44 rfl ?_
            have k2 : ¬ own_dup 2 j (fl.getD · 0) (tl.getD · 0) = 0 := fun q => c44 (by rw [q]; rfl)
            refine Wp.iconst (z := (0 : Int32)) (pc' := 48) d0_47 (by decide) rfl ?_
            exact Wp.retI rfl d0_48 (by decide) (by decide) ⟨by rw [own_slot, if_pos g2, if_pos g9, if_pos k0, if_pos k1, if_neg k2]; rfl, rfl⟩
        · refine Wp.ifY (pc' := 47) d0_33 c33 (by decide) (by decide) ?_
          have k1 : ¬ own_dup 1 j (fl.getD · 0) (tl.getD · 0) = 0 := fun q => c33 (by rw [q]; rfl)
          refine Wp.iconst (z := (0 : Int32)) (pc' := 48) d0_47 (by decide) rfl ?_
          exact Wp.retI rfl d0_48 (by decide) (by decide) ⟨by rw [own_slot, if_pos g2, if_pos g9, if_pos k0, if_neg k1]; rfl, rfl⟩
      · refine Wp.ifY (pc' := 47) d0_22 c22 (by decide) (by decide) ?_
        have k0 : ¬ own_dup 0 j (fl.getD · 0) (tl.getD · 0) = 0 := fun q => c22 (by rw [q]; rfl)
        refine Wp.iconst (z := (0 : Int32)) (pc' := 48) d0_47 (by decide) rfl ?_
        exact Wp.retI rfl d0_48 (by decide) (by decide) ⟨by rw [own_slot, if_pos g2, if_pos g9, if_neg k0]; rfl, rfl⟩
    · refine Wp.icmpN (pc' := 12) d0_9 c9 rfl ?_
      have g9 : ¬ fl.getD j 0 = d := fun q => c9 (by rw [q])
      refine Wp.iconst (z := (0 : Int32)) (pc' := 13) d0_12 (by decide) rfl ?_
      exact Wp.retI rfl d0_13 (by decide) (by decide) ⟨by rw [own_slot, if_pos g2, if_neg g9]; rfl, rfl⟩
  · refine Wp.icmpY (pc' := 12) d0_2 c2 (by decide) (by decide) ?_
    have g2 : ¬ j < kk := fun q => c2 ((own_lt (by omega) (by omega)).mpr q)
    refine Wp.iconst (z := (0 : Int32)) (pc' := 13) d0_12 (by decide) rfl ?_
    exact Wp.retI rfl d0_13 (by decide) (by decide) ⟨by rw [own_slot, if_neg g2]; rfl, rfl⟩

set_option maxRecDepth 65536 in
set_option maxHeartbeats 40000000 in
theorem rm_pre (l : Launch) (Z : State) (a0 : Array Value) (hw : ∀ d ∈ tables_1, d.before a0 Z = true) (F : Addr) (kf : ClassId) (f0 f1 f2 f3 kk : Nat) (hkk : kk < 5) (h : Heap) (n0 : Nat) {Ls : List (Addr × (Cell → Prop))} (O : Hp h n0 ((F, ArC Z kf .int [(.int (Int32.ofNat f0)), (.int (Int32.ofNat f1)), (.int (Int32.ofNat f2)), (.int (Int32.ofNat f3))]) :: Ls)) :
    Met l Z (⟨"com/example/frugal_retrieval/frugalretrieval/index/LinkGraphOutDegreePinLaw", "prefix", "([II)[I"⟩ : MethodName) method_4_code 3 (some (.array .int)) (rmk 0 1 4 0) #[(.ref F), (.int (Int32.ofNat kk))] h n0 (fun v h' => ∃ b kb, v = some (.ref b) ∧ Hp h' n0 ((b, ArC Z kb .int (own_vals ([f0, f1, f2, f3].take kk))) :: (F, ArC Z kf .int [(.int (Int32.ofNat f0)), (.int (Int32.ofNat f1)), (.int (Int32.ofNat f2)), (.int (Int32.ofNat f3))]) :: Ls)) := by
  refine Met.of (L0 := #[.val (.ref F), .val (.int (Int32.ofNat kk)), .unset]) pn_l (own_ef rfl) ?_
  rcases (show kk = 0 ∨ kk = 1 ∨ kk = 2 ∨ kk = 3 ∨ kk = 4 by omega) with rfl | rfl | rfl | rfl | rfl
  · show Wp _ _ _ _ _ _ _ _ _ _ _ _ 0 #[.val (.ref F), .val (.int (0 : Int32)), .unset] []
    refine Wp.iloadN (pc' := 1) d1_0 rfl rfl ?_
    refine Wp.newarr (m := 0) (cap := 4) (pc' := 3) O (hw _ (List.mem_of_getElem? (i := 0) rfl)) d1_1 (by decide) rfl (by decide) (by decide) (by decide) (by decide) rfl ?_
    intro h2 b k1 O2
    have O2 : Hp h2 n0 ((b, ArC Z k1 .int []) :: (F, ArC Z kf .int [(.int (Int32.ofNat f0)), (.int (Int32.ofNat f1)), (.int (Int32.ofNat f2)), (.int (Int32.ofNat f3))]) :: Ls) := O2
    refine Wp.astoreN (L' := #[.val (.ref F), .val (.int (0 : Int32)), .val (.ref b)]) (pc' := 4) d1_3 rfl rfl rfl ?_
    refine Wp.iloadN (pc' := 5) d1_4 rfl rfl ?_
    refine Wp.ifY (pc' := 14) d1_5 (by decide) (by decide) (by decide) ?_
    refine Wp.iloadN (pc' := 15) d1_14 rfl rfl ?_
    refine Wp.iconst (z := (1 : Int32)) (pc' := 16) d1_15 (by decide) rfl ?_
    refine Wp.icmpY (pc' := 25) d1_16 (by decide) (by decide) (by decide) ?_
    refine Wp.iloadN (pc' := 26) d1_25 rfl rfl ?_
    refine Wp.iconst (z := (2 : Int32)) (pc' := 27) d1_26 (by decide) rfl ?_
    refine Wp.icmpY (pc' := 36) d1_27 (by decide) (by decide) (by decide) ?_
    refine Wp.iloadN (pc' := 37) d1_36 rfl rfl ?_
    refine Wp.iconst (z := (3 : Int32)) (pc' := 38) d1_37 (by decide) rfl ?_
    refine Wp.icmpY (pc' := 47) d1_38 (by decide) (by decide) (by decide) ?_
    refine Wp.aloadN (pc' := 48) d1_47 rfl rfl rfl ?_
    exact Wp.retA (t := (.array .int)) rfl rfl rfl rfl d1_48 (by decide) (by decide) ⟨b, k1, rfl, O2⟩
  · show Wp _ _ _ _ _ _ _ _ _ _ _ _ 0 #[.val (.ref F), .val (.int (1 : Int32)), .unset] []
    refine Wp.iloadN (pc' := 1) d1_0 rfl rfl ?_
    refine Wp.newarr (m := 1) (cap := 4) (pc' := 3) O (hw _ (List.mem_of_getElem? (i := 0) rfl)) d1_1 (by decide) rfl (by decide) (by decide) (by decide) (by decide) rfl ?_
    intro h4 b k3 O4
    have O4 : Hp h4 n0 ((b, ArC Z k3 .int [(.int (0 : Int32))]) :: (F, ArC Z kf .int [(.int (Int32.ofNat f0)), (.int (Int32.ofNat f1)), (.int (Int32.ofNat f2)), (.int (Int32.ofNat f3))]) :: Ls) := O4
    refine Wp.astoreN (L' := #[.val (.ref F), .val (.int (1 : Int32)), .val (.ref b)]) (pc' := 4) d1_3 rfl rfl rfl ?_
    refine Wp.iloadN (pc' := 5) d1_4 rfl rfl ?_
    refine Wp.ifN (pc' := 8) d1_5 (not_not_intro (by decide)) rfl ?_
    refine Wp.aloadN (pc' := 9) d1_8 rfl rfl rfl ?_
    refine Wp.iconst (z := (0 : Int32)) (pc' := 10) d1_9 (by decide) rfl ?_
    refine Wp.aloadN (pc' := 11) d1_10 rfl rfl rfl ?_
    refine Wp.iconst (z := (0 : Int32)) (pc' := 12) d1_11 (by decide) rfl ?_
    refine Wp.iaload (i := 1) (jn := 0) (v := (.int (Int32.ofNat f0))) (pc' := 13) O4 rfl d1_12 (by decide) rfl rfl rfl ?_
    refine Wp.iastore (LA := []) (jn := 0) (pc' := 14) O4 d1_13 (by decide) rfl (by first | decide | simp) rfl ?_
    intro h5 O5
    have O5 : Hp h5 n0 ((b, ArC Z k3 .int [(.int (Int32.ofNat f0))]) :: (F, ArC Z kf .int [(.int (Int32.ofNat f0)), (.int (Int32.ofNat f1)), (.int (Int32.ofNat f2)), (.int (Int32.ofNat f3))]) :: Ls) := O5
    refine Wp.iloadN (pc' := 15) d1_14 rfl rfl ?_
    refine Wp.iconst (z := (1 : Int32)) (pc' := 16) d1_15 (by decide) rfl ?_
    refine Wp.icmpY (pc' := 25) d1_16 (by decide) (by decide) (by decide) ?_
    refine Wp.iloadN (pc' := 26) d1_25 rfl rfl ?_
    refine Wp.iconst (z := (2 : Int32)) (pc' := 27) d1_26 (by decide) rfl ?_
    refine Wp.icmpY (pc' := 36) d1_27 (by decide) (by decide) (by decide) ?_
    refine Wp.iloadN (pc' := 37) d1_36 rfl rfl ?_
    refine Wp.iconst (z := (3 : Int32)) (pc' := 38) d1_37 (by decide) rfl ?_
    refine Wp.icmpY (pc' := 47) d1_38 (by decide) (by decide) (by decide) ?_
    refine Wp.aloadN (pc' := 48) d1_47 rfl rfl rfl ?_
    exact Wp.retA (t := (.array .int)) rfl rfl rfl rfl d1_48 (by decide) (by decide) ⟨b, k3, rfl, O5⟩
  · show Wp _ _ _ _ _ _ _ _ _ _ _ _ 0 #[.val (.ref F), .val (.int (2 : Int32)), .unset] []
    refine Wp.iloadN (pc' := 1) d1_0 rfl rfl ?_
    refine Wp.newarr (m := 2) (cap := 4) (pc' := 3) O (hw _ (List.mem_of_getElem? (i := 0) rfl)) d1_1 (by decide) rfl (by decide) (by decide) (by decide) (by decide) rfl ?_
    intro h7 b k6 O7
    have O7 : Hp h7 n0 ((b, ArC Z k6 .int [(.int (0 : Int32)), (.int (0 : Int32))]) :: (F, ArC Z kf .int [(.int (Int32.ofNat f0)), (.int (Int32.ofNat f1)), (.int (Int32.ofNat f2)), (.int (Int32.ofNat f3))]) :: Ls) := O7
    refine Wp.astoreN (L' := #[.val (.ref F), .val (.int (2 : Int32)), .val (.ref b)]) (pc' := 4) d1_3 rfl rfl rfl ?_
    refine Wp.iloadN (pc' := 5) d1_4 rfl rfl ?_
    refine Wp.ifN (pc' := 8) d1_5 (not_not_intro (by decide)) rfl ?_
    refine Wp.aloadN (pc' := 9) d1_8 rfl rfl rfl ?_
    refine Wp.iconst (z := (0 : Int32)) (pc' := 10) d1_9 (by decide) rfl ?_
    refine Wp.aloadN (pc' := 11) d1_10 rfl rfl rfl ?_
    refine Wp.iconst (z := (0 : Int32)) (pc' := 12) d1_11 (by decide) rfl ?_
    refine Wp.iaload (i := 1) (jn := 0) (v := (.int (Int32.ofNat f0))) (pc' := 13) O7 rfl d1_12 (by decide) rfl rfl rfl ?_
    refine Wp.iastore (LA := []) (jn := 0) (pc' := 14) O7 d1_13 (by decide) rfl (by first | decide | simp) rfl ?_
    intro h8 O8
    have O8 : Hp h8 n0 ((b, ArC Z k6 .int [(.int (Int32.ofNat f0)), (.int (0 : Int32))]) :: (F, ArC Z kf .int [(.int (Int32.ofNat f0)), (.int (Int32.ofNat f1)), (.int (Int32.ofNat f2)), (.int (Int32.ofNat f3))]) :: Ls) := O8
    refine Wp.iloadN (pc' := 15) d1_14 rfl rfl ?_
    refine Wp.iconst (z := (1 : Int32)) (pc' := 16) d1_15 (by decide) rfl ?_
    refine Wp.icmpN (pc' := 19) d1_16 (not_not_intro (by decide)) rfl ?_
    refine Wp.aloadN (pc' := 20) d1_19 rfl rfl rfl ?_
    refine Wp.iconst (z := (1 : Int32)) (pc' := 21) d1_20 (by decide) rfl ?_
    refine Wp.aloadN (pc' := 22) d1_21 rfl rfl rfl ?_
    refine Wp.iconst (z := (1 : Int32)) (pc' := 23) d1_22 (by decide) rfl ?_
    refine Wp.iaload (i := 1) (jn := 1) (v := (.int (Int32.ofNat f1))) (pc' := 24) O8 rfl d1_23 (by decide) rfl rfl rfl ?_
    refine Wp.iastore (LA := []) (jn := 1) (pc' := 25) O8 d1_24 (by decide) rfl (by first | decide | simp) rfl ?_
    intro h9 O9
    have O9 : Hp h9 n0 ((b, ArC Z k6 .int [(.int (Int32.ofNat f0)), (.int (Int32.ofNat f1))]) :: (F, ArC Z kf .int [(.int (Int32.ofNat f0)), (.int (Int32.ofNat f1)), (.int (Int32.ofNat f2)), (.int (Int32.ofNat f3))]) :: Ls) := O9
    refine Wp.iloadN (pc' := 26) d1_25 rfl rfl ?_
    refine Wp.iconst (z := (2 : Int32)) (pc' := 27) d1_26 (by decide) rfl ?_
    refine Wp.icmpY (pc' := 36) d1_27 (by decide) (by decide) (by decide) ?_
    refine Wp.iloadN (pc' := 37) d1_36 rfl rfl ?_
    refine Wp.iconst (z := (3 : Int32)) (pc' := 38) d1_37 (by decide) rfl ?_
    refine Wp.icmpY (pc' := 47) d1_38 (by decide) (by decide) (by decide) ?_
    refine Wp.aloadN (pc' := 48) d1_47 rfl rfl rfl ?_
    exact Wp.retA (t := (.array .int)) rfl rfl rfl rfl d1_48 (by decide) (by decide) ⟨b, k6, rfl, O9⟩
  · show Wp _ _ _ _ _ _ _ _ _ _ _ _ 0 #[.val (.ref F), .val (.int (3 : Int32)), .unset] []
    refine Wp.iloadN (pc' := 1) d1_0 rfl rfl ?_
    refine Wp.newarr (m := 3) (cap := 4) (pc' := 3) O (hw _ (List.mem_of_getElem? (i := 0) rfl)) d1_1 (by decide) rfl (by decide) (by decide) (by decide) (by decide) rfl ?_
    intro h11 b k10 O11
    have O11 : Hp h11 n0 ((b, ArC Z k10 .int [(.int (0 : Int32)), (.int (0 : Int32)), (.int (0 : Int32))]) :: (F, ArC Z kf .int [(.int (Int32.ofNat f0)), (.int (Int32.ofNat f1)), (.int (Int32.ofNat f2)), (.int (Int32.ofNat f3))]) :: Ls) := O11
    refine Wp.astoreN (L' := #[.val (.ref F), .val (.int (3 : Int32)), .val (.ref b)]) (pc' := 4) d1_3 rfl rfl rfl ?_
    refine Wp.iloadN (pc' := 5) d1_4 rfl rfl ?_
    refine Wp.ifN (pc' := 8) d1_5 (not_not_intro (by decide)) rfl ?_
    refine Wp.aloadN (pc' := 9) d1_8 rfl rfl rfl ?_
    refine Wp.iconst (z := (0 : Int32)) (pc' := 10) d1_9 (by decide) rfl ?_
    refine Wp.aloadN (pc' := 11) d1_10 rfl rfl rfl ?_
    refine Wp.iconst (z := (0 : Int32)) (pc' := 12) d1_11 (by decide) rfl ?_
    refine Wp.iaload (i := 1) (jn := 0) (v := (.int (Int32.ofNat f0))) (pc' := 13) O11 rfl d1_12 (by decide) rfl rfl rfl ?_
    refine Wp.iastore (LA := []) (jn := 0) (pc' := 14) O11 d1_13 (by decide) rfl (by first | decide | simp) rfl ?_
    intro h12 O12
    have O12 : Hp h12 n0 ((b, ArC Z k10 .int [(.int (Int32.ofNat f0)), (.int (0 : Int32)), (.int (0 : Int32))]) :: (F, ArC Z kf .int [(.int (Int32.ofNat f0)), (.int (Int32.ofNat f1)), (.int (Int32.ofNat f2)), (.int (Int32.ofNat f3))]) :: Ls) := O12
    refine Wp.iloadN (pc' := 15) d1_14 rfl rfl ?_
    refine Wp.iconst (z := (1 : Int32)) (pc' := 16) d1_15 (by decide) rfl ?_
    refine Wp.icmpN (pc' := 19) d1_16 (not_not_intro (by decide)) rfl ?_
    refine Wp.aloadN (pc' := 20) d1_19 rfl rfl rfl ?_
    refine Wp.iconst (z := (1 : Int32)) (pc' := 21) d1_20 (by decide) rfl ?_
    refine Wp.aloadN (pc' := 22) d1_21 rfl rfl rfl ?_
    refine Wp.iconst (z := (1 : Int32)) (pc' := 23) d1_22 (by decide) rfl ?_
    refine Wp.iaload (i := 1) (jn := 1) (v := (.int (Int32.ofNat f1))) (pc' := 24) O12 rfl d1_23 (by decide) rfl rfl rfl ?_
    refine Wp.iastore (LA := []) (jn := 1) (pc' := 25) O12 d1_24 (by decide) rfl (by first | decide | simp) rfl ?_
    intro h13 O13
    have O13 : Hp h13 n0 ((b, ArC Z k10 .int [(.int (Int32.ofNat f0)), (.int (Int32.ofNat f1)), (.int (0 : Int32))]) :: (F, ArC Z kf .int [(.int (Int32.ofNat f0)), (.int (Int32.ofNat f1)), (.int (Int32.ofNat f2)), (.int (Int32.ofNat f3))]) :: Ls) := O13
    refine Wp.iloadN (pc' := 26) d1_25 rfl rfl ?_
    refine Wp.iconst (z := (2 : Int32)) (pc' := 27) d1_26 (by decide) rfl ?_
    refine Wp.icmpN (pc' := 30) d1_27 (not_not_intro (by decide)) rfl ?_
    refine Wp.aloadN (pc' := 31) d1_30 rfl rfl rfl ?_
    refine Wp.iconst (z := (2 : Int32)) (pc' := 32) d1_31 (by decide) rfl ?_
    refine Wp.aloadN (pc' := 33) d1_32 rfl rfl rfl ?_
    refine Wp.iconst (z := (2 : Int32)) (pc' := 34) d1_33 (by decide) rfl ?_
    refine Wp.iaload (i := 1) (jn := 2) (v := (.int (Int32.ofNat f2))) (pc' := 35) O13 rfl d1_34 (by decide) rfl rfl rfl ?_
    refine Wp.iastore (LA := []) (jn := 2) (pc' := 36) O13 d1_35 (by decide) rfl (by first | decide | simp) rfl ?_
    intro h14 O14
    have O14 : Hp h14 n0 ((b, ArC Z k10 .int [(.int (Int32.ofNat f0)), (.int (Int32.ofNat f1)), (.int (Int32.ofNat f2))]) :: (F, ArC Z kf .int [(.int (Int32.ofNat f0)), (.int (Int32.ofNat f1)), (.int (Int32.ofNat f2)), (.int (Int32.ofNat f3))]) :: Ls) := O14
    refine Wp.iloadN (pc' := 37) d1_36 rfl rfl ?_
    refine Wp.iconst (z := (3 : Int32)) (pc' := 38) d1_37 (by decide) rfl ?_
    refine Wp.icmpY (pc' := 47) d1_38 (by decide) (by decide) (by decide) ?_
    refine Wp.aloadN (pc' := 48) d1_47 rfl rfl rfl ?_
    exact Wp.retA (t := (.array .int)) rfl rfl rfl rfl d1_48 (by decide) (by decide) ⟨b, k10, rfl, O14⟩
  · show Wp _ _ _ _ _ _ _ _ _ _ _ _ 0 #[.val (.ref F), .val (.int (4 : Int32)), .unset] []
    refine Wp.iloadN (pc' := 1) d1_0 rfl rfl ?_
    refine Wp.newarr (m := 4) (cap := 4) (pc' := 3) O (hw _ (List.mem_of_getElem? (i := 0) rfl)) d1_1 (by decide) rfl (by decide) (by decide) (by decide) (by decide) rfl ?_
    intro h16 b k15 O16
    have O16 : Hp h16 n0 ((b, ArC Z k15 .int [(.int (0 : Int32)), (.int (0 : Int32)), (.int (0 : Int32)), (.int (0 : Int32))]) :: (F, ArC Z kf .int [(.int (Int32.ofNat f0)), (.int (Int32.ofNat f1)), (.int (Int32.ofNat f2)), (.int (Int32.ofNat f3))]) :: Ls) := O16
    refine Wp.astoreN (L' := #[.val (.ref F), .val (.int (4 : Int32)), .val (.ref b)]) (pc' := 4) d1_3 rfl rfl rfl ?_
    refine Wp.iloadN (pc' := 5) d1_4 rfl rfl ?_
    refine Wp.ifN (pc' := 8) d1_5 (not_not_intro (by decide)) rfl ?_
    refine Wp.aloadN (pc' := 9) d1_8 rfl rfl rfl ?_
    refine Wp.iconst (z := (0 : Int32)) (pc' := 10) d1_9 (by decide) rfl ?_
    refine Wp.aloadN (pc' := 11) d1_10 rfl rfl rfl ?_
    refine Wp.iconst (z := (0 : Int32)) (pc' := 12) d1_11 (by decide) rfl ?_
    refine Wp.iaload (i := 1) (jn := 0) (v := (.int (Int32.ofNat f0))) (pc' := 13) O16 rfl d1_12 (by decide) rfl rfl rfl ?_
    refine Wp.iastore (LA := []) (jn := 0) (pc' := 14) O16 d1_13 (by decide) rfl (by first | decide | simp) rfl ?_
    intro h17 O17
    have O17 : Hp h17 n0 ((b, ArC Z k15 .int [(.int (Int32.ofNat f0)), (.int (0 : Int32)), (.int (0 : Int32)), (.int (0 : Int32))]) :: (F, ArC Z kf .int [(.int (Int32.ofNat f0)), (.int (Int32.ofNat f1)), (.int (Int32.ofNat f2)), (.int (Int32.ofNat f3))]) :: Ls) := O17
    refine Wp.iloadN (pc' := 15) d1_14 rfl rfl ?_
    refine Wp.iconst (z := (1 : Int32)) (pc' := 16) d1_15 (by decide) rfl ?_
    refine Wp.icmpN (pc' := 19) d1_16 (not_not_intro (by decide)) rfl ?_
    refine Wp.aloadN (pc' := 20) d1_19 rfl rfl rfl ?_
    refine Wp.iconst (z := (1 : Int32)) (pc' := 21) d1_20 (by decide) rfl ?_
    refine Wp.aloadN (pc' := 22) d1_21 rfl rfl rfl ?_
    refine Wp.iconst (z := (1 : Int32)) (pc' := 23) d1_22 (by decide) rfl ?_
    refine Wp.iaload (i := 1) (jn := 1) (v := (.int (Int32.ofNat f1))) (pc' := 24) O17 rfl d1_23 (by decide) rfl rfl rfl ?_
    refine Wp.iastore (LA := []) (jn := 1) (pc' := 25) O17 d1_24 (by decide) rfl (by first | decide | simp) rfl ?_
    intro h18 O18
    have O18 : Hp h18 n0 ((b, ArC Z k15 .int [(.int (Int32.ofNat f0)), (.int (Int32.ofNat f1)), (.int (0 : Int32)), (.int (0 : Int32))]) :: (F, ArC Z kf .int [(.int (Int32.ofNat f0)), (.int (Int32.ofNat f1)), (.int (Int32.ofNat f2)), (.int (Int32.ofNat f3))]) :: Ls) := O18
    refine Wp.iloadN (pc' := 26) d1_25 rfl rfl ?_
    refine Wp.iconst (z := (2 : Int32)) (pc' := 27) d1_26 (by decide) rfl ?_
    refine Wp.icmpN (pc' := 30) d1_27 (not_not_intro (by decide)) rfl ?_
    refine Wp.aloadN (pc' := 31) d1_30 rfl rfl rfl ?_
    refine Wp.iconst (z := (2 : Int32)) (pc' := 32) d1_31 (by decide) rfl ?_
    refine Wp.aloadN (pc' := 33) d1_32 rfl rfl rfl ?_
    refine Wp.iconst (z := (2 : Int32)) (pc' := 34) d1_33 (by decide) rfl ?_
    refine Wp.iaload (i := 1) (jn := 2) (v := (.int (Int32.ofNat f2))) (pc' := 35) O18 rfl d1_34 (by decide) rfl rfl rfl ?_
    refine Wp.iastore (LA := []) (jn := 2) (pc' := 36) O18 d1_35 (by decide) rfl (by first | decide | simp) rfl ?_
    intro h19 O19
    have O19 : Hp h19 n0 ((b, ArC Z k15 .int [(.int (Int32.ofNat f0)), (.int (Int32.ofNat f1)), (.int (Int32.ofNat f2)), (.int (0 : Int32))]) :: (F, ArC Z kf .int [(.int (Int32.ofNat f0)), (.int (Int32.ofNat f1)), (.int (Int32.ofNat f2)), (.int (Int32.ofNat f3))]) :: Ls) := O19
    refine Wp.iloadN (pc' := 37) d1_36 rfl rfl ?_
    refine Wp.iconst (z := (3 : Int32)) (pc' := 38) d1_37 (by decide) rfl ?_
    refine Wp.icmpN (pc' := 41) d1_38 (not_not_intro (by decide)) rfl ?_
    refine Wp.aloadN (pc' := 42) d1_41 rfl rfl rfl ?_
    refine Wp.iconst (z := (3 : Int32)) (pc' := 43) d1_42 (by decide) rfl ?_
    refine Wp.aloadN (pc' := 44) d1_43 rfl rfl rfl ?_
    refine Wp.iconst (z := (3 : Int32)) (pc' := 45) d1_44 (by decide) rfl ?_
    refine Wp.iaload (i := 1) (jn := 3) (v := (.int (Int32.ofNat f3))) (pc' := 46) O19 rfl d1_45 (by decide) rfl rfl rfl ?_
    refine Wp.iastore (LA := []) (jn := 3) (pc' := 47) O19 d1_46 (by decide) rfl (by first | decide | simp) rfl ?_
    intro h20 O20
    have O20 : Hp h20 n0 ((b, ArC Z k15 .int [(.int (Int32.ofNat f0)), (.int (Int32.ofNat f1)), (.int (Int32.ofNat f2)), (.int (Int32.ofNat f3))]) :: (F, ArC Z kf .int [(.int (Int32.ofNat f0)), (.int (Int32.ofNat f1)), (.int (Int32.ofNat f2)), (.int (Int32.ofNat f3))]) :: Ls) := O20
    refine Wp.aloadN (pc' := 48) d1_47 rfl rfl rfl ?_
    exact Wp.retA (t := (.array .int)) rfl rfl rfl rfl d1_48 (by decide) (by decide) ⟨b, k15, rfl, O20⟩

set_option maxRecDepth 65536 in
set_option maxHeartbeats 40000000 in
theorem rm_ini (l : Launch) (Z : State) (a0 : Array Value) (hw : ∀ d ∈ tables_1, d.before a0 Z = true) (g s t : Addr) (h : Heap) (n0 : Nat) {Ls : List (Addr × (Cell → Prop))} (O : Hp h n0 ((g, ObC Z a0 "com/example/frugal_retrieval/frugalretrieval/index/LinkGraph" [("starts", "[I", .null), ("targets", "[I", .null)]) :: Ls)) :
    Met l Z (⟨"com/example/frugal_retrieval/frugalretrieval/index/LinkGraph", "<init>", "([I[I)V"⟩ : MethodName) prog_48_method_1_code 3 none (rmk 1 0 0 12) #[(.ref g), (.ref s), (.ref t)] h n0 (fun v h' => v = none ∧ Hp h' n0 ((g, ObC Z a0 "com/example/frugal_retrieval/frugalretrieval/index/LinkGraph" [("starts", "[I", (.ref s)), ("targets", "[I", (.ref t))]) :: Ls)) := by
  refine Met.of (L0 := #[.val (.ref g), .val (.ref s), .val (.ref t)]) pn_g (own_ef rfl) ?_
  refine Wp.aloadN (pc' := 1) d10_0 rfl rfl rfl ?_
  refine Wp.initO (pc' := 4) (hw _ (List.mem_of_getElem? (i := 54) rfl)) (hw _ (List.mem_of_getElem? (i := 55) rfl)) (hw _ (List.mem_of_getElem? (i := 56) rfl)) (W := 0) rfl (Nat.le_refl 0) (by decide) (by decide) d10_1 rfl ?_
  refine Wp.aloadN (pc' := 5) d10_4 rfl rfl rfl ?_
  refine Wp.aloadN (pc' := 6) d10_5 rfl rfl rfl ?_
  refine Wp.putfield (LA := []) (F1 := []) (pc' := 9) O (hw _ (List.mem_of_getElem? (i := 57) rfl)) (Or.inr ⟨(hw _ (List.mem_of_getElem? (i := 58) rfl)), rfl, rfl⟩) (hw _ (List.mem_of_getElem? (i := 41) rfl)) (ty := (.array .int)) (by decide) rfl rfl (by simp) d10_6 rfl ?_
  intro h1 O1
  have O1 : Hp h1 n0 ((g, ObC Z a0 "com/example/frugal_retrieval/frugalretrieval/index/LinkGraph" [("starts", "[I", (.ref s)), ("targets", "[I", .null)]) :: Ls) := O1
  refine Wp.aloadN (pc' := 10) d10_9 rfl rfl rfl ?_
  refine Wp.aloadN (pc' := 11) d10_10 rfl rfl rfl ?_
  refine Wp.putfield (LA := []) (F1 := [_]) (pc' := 14) O1 (hw _ (List.mem_of_getElem? (i := 59) rfl)) (Or.inr ⟨(hw _ (List.mem_of_getElem? (i := 60) rfl)), rfl, rfl⟩) (hw _ (List.mem_of_getElem? (i := 41) rfl)) (ty := (.array .int)) (by decide) rfl rfl (by simp) d10_11 rfl ?_
  intro h2 O2
  have O2 : Hp h2 n0 ((g, ObC Z a0 "com/example/frugal_retrieval/frugalretrieval/index/LinkGraph" [("starts", "[I", (.ref s)), ("targets", "[I", (.ref t))]) :: Ls) := O2
  exact Wp.ret0 rfl d10_14 (by decide) (by decide) ⟨rfl, O2⟩

set_option maxRecDepth 65536 in
set_option maxHeartbeats 40000000 in
theorem rm_deg (l : Launch) (Z : State) (a0 : Array Value) (hw : ∀ d ∈ tables_1, d.before a0 Z = true) (g s t : Addr) (ks : ClassId) (ss : List Nat) (d x y : Nat) (hd : d < 100) (h1 : ss[d]? = some x) (h2 : ss[d + 1]? = some (x + y)) (h : Heap) (n0 : Nat) {Ls : List (Addr × (Cell → Prop))} (O : Hp h n0 ((g, ObC Z a0 "com/example/frugal_retrieval/frugalretrieval/index/LinkGraph" [("starts", "[I", (.ref s)), ("targets", "[I", (.ref t))]) :: (s, ArC Z ks .int (own_vals ss)) :: Ls)) :
    Met l Z (⟨"com/example/frugal_retrieval/frugalretrieval/index/LinkGraph", "outDegree", "(I)I"⟩ : MethodName) prog_48_method_6_code 2 (some .int) (rmk 0 0 0 0) #[(.ref g), (.int (Int32.ofNat d))] h n0 (fun v h' => v = some (.int (Int32.ofNat y)) ∧ h = h') := by
  refine Met.of (L0 := #[.val (.ref g), .val (.int (Int32.ofNat d))]) pn_g (own_ef rfl) ?_
  refine Wp.aloadN (pc' := 1) d12_0 rfl rfl rfl ?_
  refine Wp.getfield (i := 0) (j := 0) (pc' := 4) O rfl rfl (hw _ (List.mem_of_getElem? (i := 57) rfl)) d12_1 rfl ?_
  refine Wp.iloadN (pc' := 5) d12_4 rfl rfl ?_
  refine Wp.iconst (z := (1 : Int32)) (pc' := 6) d12_5 (by decide) rfl ?_
  refine Wp.iadd (z := (Int32.ofNat (d + 1))) (pc' := 7) d12_6 (own_one d) rfl ?_
  refine Wp.iaload (i := 1) (jn := (d + 1)) (v := (.int (Int32.ofNat (x + y)))) (pc' := 8) O rfl d12_7 (own_nn (by omega)) (own_n32 (by omega)) (own_vget h2) rfl ?_
  refine Wp.aloadN (pc' := 9) d12_8 rfl rfl rfl ?_
  refine Wp.getfield (i := 0) (j := 0) (pc' := 12) O rfl rfl (hw _ (List.mem_of_getElem? (i := 57) rfl)) d12_9 rfl ?_
  refine Wp.iloadN (pc' := 13) d12_12 rfl rfl ?_
  refine Wp.iaload (i := 1) (jn := d) (v := (.int (Int32.ofNat x))) (pc' := 14) O rfl d12_13 (own_nn (by omega)) (own_n32 (by omega)) (own_vget h1) rfl ?_
  refine Wp.isub (z := (Int32.ofNat y)) (pc' := 15) d12_14 (by rw [own_sub (by omega), Nat.add_sub_cancel_left]) rfl ?_
  exact Wp.retI rfl d12_15 (by decide) (by decide) ⟨rfl, rfl⟩

set_option maxRecDepth 65536 in
set_option maxHeartbeats 40000000 in
theorem phA (l : Launch) (Z : State) (a0 : Array Value) (hw : ∀ d ∈ tables_1, d.before a0 Z = true) (n0 n k : Nat) (F T : Addr) (kf kt : ClassId) (fs ts : List Nat) (hn : n ≤ 4) (hk : k ≤ 4) (hfl : fs.length = k) (htl : ts.length = k) (hfb : ∀ i, i < k → fs.getD i 0 < n) (htb : ∀ i, i < k → ts.getD i 0 < n) (Q : Option Value → Heap → Prop) (cells slots : Nat) (h : Heap) {Ls : List (Addr × (Cell → Prop))} (O : Hp h n0 ((F, ArC Z kf .int (own_vals fs)) :: (T, ArC Z kt .int (own_vals ts)) :: Ls)) (K : Wp l Z (rmk 4 5 19 81) (⟨"com/example/frugal_retrieval/frugalretrieval/index/LinkGraph", "of", "(I[I[I)Lcom/example/frugal_retrieval/frugalretrieval/index/LinkGraph;"⟩ : MethodName) prog_48_method_2_code 11 (some (.object "com/example/frugal_retrieval/frugalretrieval/index/LinkGraph")) n0 Q h cells slots 105 #[.val (.int (Int32.ofNat n)), .val (.ref F), .val (.ref T), .val (.int (Int32.ofNat k)), .unset, .unset, .unset, .unset, .unset, .unset, .unset] []) :
    ∀ (r i : Nat), i + r = k → Wp l Z (rmk 4 5 19 81) (⟨"com/example/frugal_retrieval/frugalretrieval/index/LinkGraph", "of", "(I[I[I)Lcom/example/frugal_retrieval/frugalretrieval/index/LinkGraph;"⟩ : MethodName) prog_48_method_2_code 11 (some (.object "com/example/frugal_retrieval/frugalretrieval/index/LinkGraph")) n0 Q h cells slots 44 #[.val (.int (Int32.ofNat n)), .val (.ref F), .val (.ref T), .val (.int (Int32.ofNat i)), .unset, .unset, .unset, .unset, .unset, .unset, .unset] [] := by
  intro r
  induction r with
  | zero =>
    intro i hi
    refine Wp.iloadN (pc' := 45) d2_44 rfl rfl ?_
    refine Wp.aloadN (pc' := 46) d2_45 rfl rfl rfl ?_
    refine Wp.arrlen (i := 0) (z := (Int32.ofNat k)) (pc' := 47) O rfl d2_46 (by rw [own_vlen, hfl]) rfl ?_
    refine Wp.icmpY (pc' := 105) d2_47 (fun u => by have u2 := (own_lt (by omega) (by omega)).mp u; omega) (by decide) (by decide) ?_
    rw [show i = k from by omega]
    exact K
  | succ r ih =>
    intro i hi
    have hf := hfb i (by omega)
    have ht := htb i (by omega)
    refine Wp.iloadN (pc' := 45) d2_44 rfl rfl ?_
    refine Wp.aloadN (pc' := 46) d2_45 rfl rfl rfl ?_
    refine Wp.arrlen (i := 0) (z := (Int32.ofNat k)) (pc' := 47) O rfl d2_46 (by rw [own_vlen, hfl]) rfl ?_
    refine Wp.icmpN (pc' := 50) d2_47 (not_not_intro ((own_lt (by omega) (by omega)).mpr (by omega))) rfl ?_
    refine Wp.aloadN (pc' := 51) d2_50 rfl rfl rfl ?_
    refine Wp.iloadN (pc' := 52) d2_51 rfl rfl ?_
    refine Wp.iaload (i := 0) (jn := i) (v := (.int (Int32.ofNat (fs.getD i 0)))) (pc' := 53) O rfl d2_52 (own_nn (by omega)) (own_n32 (by omega)) (own_vget (own_gd (by omega))) rfl ?_
    refine Wp.ifN (pc' := 56) d2_53 (own_nn (by omega)) rfl ?_
    refine Wp.aloadN (pc' := 57) d2_56 rfl rfl rfl ?_
    refine Wp.iloadN (pc' := 58) d2_57 rfl rfl ?_
    refine Wp.iaload (i := 0) (jn := i) (v := (.int (Int32.ofNat (fs.getD i 0)))) (pc' := 59) O rfl d2_58 (own_nn (by omega)) (own_n32 (by omega)) (own_vget (own_gd (by omega))) rfl ?_
    refine Wp.iloadN (pc' := 60) d2_59 rfl rfl ?_
    refine Wp.icmpN (pc' := 63) d2_60 (not_not_intro ((own_lt (by omega) (by omega)).mpr (by omega))) rfl ?_
    refine Wp.aloadN (pc' := 64) d2_63 rfl rfl rfl ?_
    refine Wp.iloadN (pc' := 65) d2_64 rfl rfl ?_
    refine Wp.iaload (i := 1) (jn := i) (v := (.int (Int32.ofNat (ts.getD i 0)))) (pc' := 66) O rfl d2_65 (own_nn (by omega)) (own_n32 (by omega)) (own_vget (own_gd (by omega))) rfl ?_
    refine Wp.ifN (pc' := 69) d2_66 (own_nn (by omega)) rfl ?_
    refine Wp.aloadN (pc' := 70) d2_69 rfl rfl rfl ?_
    refine Wp.iloadN (pc' := 71) d2_70 rfl rfl ?_
    refine Wp.iaload (i := 1) (jn := i) (v := (.int (Int32.ofNat (ts.getD i 0)))) (pc' := 72) O rfl d2_71 (own_nn (by omega)) (own_n32 (by omega)) (own_vget (own_gd (by omega))) rfl ?_
    refine Wp.iloadN (pc' := 73) d2_72 rfl rfl ?_
    refine Wp.icmpY (pc' := 99) d2_73 ((own_lt (by omega) (by omega)).mpr (by omega)) (by decide) (by decide) ?_
    refine Wp.iinc (z := (Int32.ofNat (i + 1))) (L' := #[.val (.int (Int32.ofNat n)), .val (.ref F), .val (.ref T), .val (.int (Int32.ofNat (i + 1))), .unset, .unset, .unset, .unset, .unset, .unset, .unset]) (pc' := 102) d2_99 rfl (own_one i) rfl rfl ?_
    refine Wp.goto (pc' := 44) d2_102 (by decide) (by decide) ?_
    exact ih (i + 1) (by omega)

set_option maxRecDepth 65536 in
set_option maxHeartbeats 40000000 in
theorem phB (l : Launch) (Z : State) (a0 : Array Value) (hw : ∀ d ∈ tables_1, d.before a0 Z = true) (n0 n k : Nat) (F T : Addr) (kf kt : ClassId) (fs ts : List Nat) (hn : n ≤ 4) (hk : k ≤ 4) (hfl : fs.length = k) (htl : ts.length = k) (hfb : ∀ i, i < k → fs.getD i 0 < n) (htb : ∀ i, i < k → ts.getD i 0 < n) (Q : Option Value → Heap → Prop) (cells slots : Nat) (S : Addr) (ks : ClassId) {Ls : List (Addr × (Cell → Prop))} (K : ∀ (h' : Heap) (s7 : Slot), One s7 → Hp h' n0 ((S, ArC Z ks .int (own_vals (own_B fs n k))) :: (F, ArC Z kf .int (own_vals fs)) :: (T, ArC Z kt .int (own_vals ts)) :: Ls) → Wp l Z (rmk 4 5 19 81) (⟨"com/example/frugal_retrieval/frugalretrieval/index/LinkGraph", "of", "(I[I[I)Lcom/example/frugal_retrieval/frugalretrieval/index/LinkGraph;"⟩ : MethodName) prog_48_method_2_code 11 (some (.object "com/example/frugal_retrieval/frugalretrieval/index/LinkGraph")) n0 Q h' cells slots 152 #[.val (.int (Int32.ofNat n)), .val (.ref F), .val (.ref T), .val (.ref S), .val (.ref F), .val (.int (Int32.ofNat k)), .val (.int (Int32.ofNat k)), s7, .unset, .unset, .unset] []) :
    ∀ (r i : Nat) (s7 : Slot) (h : Heap), i + r = k → One s7 → Hp h n0 ((S, ArC Z ks .int (own_vals (own_B fs n i))) :: (F, ArC Z kf .int (own_vals fs)) :: (T, ArC Z kt .int (own_vals ts)) :: Ls) → Wp l Z (rmk 4 5 19 81) (⟨"com/example/frugal_retrieval/frugalretrieval/index/LinkGraph", "of", "(I[I[I)Lcom/example/frugal_retrieval/frugalretrieval/index/LinkGraph;"⟩ : MethodName) prog_48_method_2_code 11 (some (.object "com/example/frugal_retrieval/frugalretrieval/index/LinkGraph")) n0 Q h cells slots 122 #[.val (.int (Int32.ofNat n)), .val (.ref F), .val (.ref T), .val (.ref S), .val (.ref F), .val (.int (Int32.ofNat k)), .val (.int (Int32.ofNat i)), s7, .unset, .unset, .unset] [] := by
  intro r
  induction r with
  | zero =>
    intro i s7 h hi h7 O
    refine Wp.iload (pc' := 124) d2_122 rfl rfl ?_
    refine Wp.iload (pc' := 126) d2_124 rfl rfl ?_
    refine Wp.icmpY (pc' := 152) d2_126 (fun u => by have u2 := (own_lt (by omega) (by omega)).mp u; omega) (by decide) (by decide) ?_
    obtain rfl : i = k := by omega
    exact K h s7 h7 O
  | succ r ih =>
    intro i s7 h hi h7 O
    have hf := hfb i (by omega)
    have bl := own_Blen fs n i
    refine Wp.iload (pc' := 124) d2_122 rfl rfl ?_
    refine Wp.iload (pc' := 126) d2_124 rfl rfl ?_
    refine Wp.icmpN (pc' := 129) d2_126 (not_not_intro ((own_lt (by omega) (by omega)).mpr (by omega))) rfl ?_
    refine Wp.aload (pc' := 131) d2_129 rfl rfl rfl ?_
    refine Wp.iload (pc' := 133) d2_131 rfl rfl ?_
    refine Wp.iaload (i := 1) (jn := i) (v := (.int (Int32.ofNat (fs.getD i 0)))) (pc' := 134) O rfl d2_133 (own_nn (by omega)) (own_n32 (by omega)) (own_vget (own_gd (by omega))) rfl ?_
    refine Wp.istore (L' := #[.val (.int (Int32.ofNat n)), .val (.ref F), .val (.ref T), .val (.ref S), .val (.ref F), .val (.int (Int32.ofNat k)), .val (.int (Int32.ofNat i)), .val (.int (Int32.ofNat (fs.getD i 0))), .unset, .unset, .unset]) (pc' := 136) d2_134 (own_st rfl h7 rfl rfl) rfl ?_
    refine Wp.aloadN (pc' := 137) d2_136 rfl rfl rfl ?_
    refine Wp.iload (pc' := 139) d2_137 rfl rfl ?_
    refine Wp.iconst (z := (1 : Int32)) (pc' := 140) d2_139 (by decide) rfl ?_
    refine Wp.iadd (z := (Int32.ofNat ((fs.getD i 0) + 1))) (pc' := 141) d2_140 (own_one _) rfl ?_
    refine Wp.dup2 (pc' := 142) d2_141 rfl rfl rfl ?_
    refine Wp.iaload (i := 0) (jn := ((fs.getD i 0) + 1)) (v := (.int (Int32.ofNat ((own_B fs n i).getD ((fs.getD i 0) + 1) 0)))) (pc' := 143) O rfl d2_142 (own_nn (by omega)) (own_n32 (by omega)) (own_vget (own_gd (by omega))) rfl ?_
    refine Wp.iconst (z := (1 : Int32)) (pc' := 144) d2_143 (by decide) rfl ?_
    refine Wp.iadd (z := (Int32.ofNat (((own_B fs n i).getD ((fs.getD i 0) + 1) 0) + 1))) (pc' := 145) d2_144 (own_one _) rfl ?_
    refine Wp.iastore (LA := []) (jn := ((fs.getD i 0) + 1)) (pc' := 146) O d2_145 (own_nn (by omega)) (own_n32 (by omega)) (by rw [own_vlen]; omega) rfl ?_
    intro h1 O1
    rw [own_vset] at O1
    have O1 : Hp h1 n0 ((S, ArC Z ks .int (own_vals (own_B fs n (i + 1)))) :: (F, ArC Z kf .int (own_vals fs)) :: (T, ArC Z kt .int (own_vals ts)) :: Ls) := O1
    refine Wp.iinc (z := (Int32.ofNat (i + 1))) (L' := #[.val (.int (Int32.ofNat n)), .val (.ref F), .val (.ref T), .val (.ref S), .val (.ref F), .val (.int (Int32.ofNat k)), .val (.int (Int32.ofNat (i + 1))), .val (.int (Int32.ofNat (fs.getD i 0))), .unset, .unset, .unset]) (pc' := 149) d2_146 rfl (own_one i) rfl rfl ?_
    refine Wp.goto (pc' := 122) d2_149 (by decide) (by decide) ?_
    exact ih (i + 1) _ h1 (by omega) (One.val rfl) O1

set_option maxRecDepth 65536 in
set_option maxHeartbeats 40000000 in
theorem phC (l : Launch) (Z : State) (a0 : Array Value) (hw : ∀ d ∈ tables_1, d.before a0 Z = true) (n0 n k : Nat) (F T : Addr) (kf kt : ClassId) (fs ts : List Nat) (hn : n ≤ 4) (hk : k ≤ 4) (hfl : fs.length = k) (htl : ts.length = k) (hfb : ∀ i, i < k → fs.getD i 0 < n) (htb : ∀ i, i < k → ts.getD i 0 < n) (Q : Option Value → Heap → Prop) (cells slots : Nat) (S : Addr) (ks : ClassId) (s7 : Slot) {Ls : List (Addr × (Cell → Prop))} (K : ∀ (h' : Heap), Hp h' n0 ((S, ArC Z ks .int (own_vals (own_C fs n n))) :: (F, ArC Z kf .int (own_vals fs)) :: (T, ArC Z kt .int (own_vals ts)) :: Ls) → Wp l Z (rmk 4 5 19 81) (⟨"com/example/frugal_retrieval/frugalretrieval/index/LinkGraph", "of", "(I[I[I)Lcom/example/frugal_retrieval/frugalretrieval/index/LinkGraph;"⟩ : MethodName) prog_48_method_2_code 11 (some (.object "com/example/frugal_retrieval/frugalretrieval/index/LinkGraph")) n0 Q h' cells slots 180 #[.val (.int (Int32.ofNat n)), .val (.ref F), .val (.ref T), .val (.ref S), .val (.int (Int32.ofNat n)), .val (.int (Int32.ofNat k)), .val (.int (Int32.ofNat k)), s7, .unset, .unset, .unset] []) :
    ∀ (r i : Nat) (h : Heap), i + r = n → Hp h n0 ((S, ArC Z ks .int (own_vals (own_C fs n i))) :: (F, ArC Z kf .int (own_vals fs)) :: (T, ArC Z kt .int (own_vals ts)) :: Ls) → Wp l Z (rmk 4 5 19 81) (⟨"com/example/frugal_retrieval/frugalretrieval/index/LinkGraph", "of", "(I[I[I)Lcom/example/frugal_retrieval/frugalretrieval/index/LinkGraph;"⟩ : MethodName) prog_48_method_2_code 11 (some (.object "com/example/frugal_retrieval/frugalretrieval/index/LinkGraph")) n0 Q h cells slots 155 #[.val (.int (Int32.ofNat n)), .val (.ref F), .val (.ref T), .val (.ref S), .val (.int (Int32.ofNat i)), .val (.int (Int32.ofNat k)), .val (.int (Int32.ofNat k)), s7, .unset, .unset, .unset] [] := by
  intro r
  induction r with
  | zero =>
    intro i h hi O
    refine Wp.iload (pc' := 157) d2_155 rfl rfl ?_
    refine Wp.iloadN (pc' := 158) d2_157 rfl rfl ?_
    refine Wp.icmpY (pc' := 180) d2_158 (fun u => by have u2 := (own_lt (by omega) (by omega)).mp u; omega) (by decide) (by decide) ?_
    obtain rfl : i = n := by omega
    exact K h O
  | succ r ih =>
    intro i h hi O
    have cl := own_Clen fs n i
    refine Wp.iload (pc' := 157) d2_155 rfl rfl ?_
    refine Wp.iloadN (pc' := 158) d2_157 rfl rfl ?_
    refine Wp.icmpN (pc' := 161) d2_158 (not_not_intro ((own_lt (by omega) (by omega)).mpr (by omega))) rfl ?_
    refine Wp.aloadN (pc' := 162) d2_161 rfl rfl rfl ?_
    refine Wp.iload (pc' := 164) d2_162 rfl rfl ?_
    refine Wp.iconst (z := (1 : Int32)) (pc' := 165) d2_164 (by decide) rfl ?_
    refine Wp.iadd (z := (Int32.ofNat (i + 1))) (pc' := 166) d2_165 (own_one _) rfl ?_
    refine Wp.dup2 (pc' := 167) d2_166 rfl rfl rfl ?_
    refine Wp.iaload (i := 0) (jn := (i + 1)) (v := (.int (Int32.ofNat ((own_C fs n i).getD (i + 1) 0)))) (pc' := 168) O rfl d2_167 (own_nn (by omega)) (own_n32 (by omega)) (own_vget (own_gd (by omega))) rfl ?_
    refine Wp.aloadN (pc' := 169) d2_168 rfl rfl rfl ?_
    refine Wp.iload (pc' := 171) d2_169 rfl rfl ?_
    refine Wp.iaload (i := 0) (jn := i) (v := (.int (Int32.ofNat ((own_C fs n i).getD i 0)))) (pc' := 172) O rfl d2_171 (own_nn (by omega)) (own_n32 (by omega)) (own_vget (own_gd (by omega))) rfl ?_
    refine Wp.iadd (z := (Int32.ofNat (((own_C fs n i).getD (i + 1) 0) + ((own_C fs n i).getD i 0)))) (pc' := 173) d2_172 (own_add _ _) rfl ?_
    refine Wp.iastore (LA := []) (jn := (i + 1)) (pc' := 174) O d2_173 (own_nn (by omega)) (own_n32 (by omega)) (by rw [own_vlen]; omega) rfl ?_
    intro h1 O1
    rw [own_vset] at O1
    have O1 : Hp h1 n0 ((S, ArC Z ks .int (own_vals (own_C fs n (i + 1)))) :: (F, ArC Z kf .int (own_vals fs)) :: (T, ArC Z kt .int (own_vals ts)) :: Ls) := O1
    refine Wp.iinc (z := (Int32.ofNat (i + 1))) (L' := #[.val (.int (Int32.ofNat n)), .val (.ref F), .val (.ref T), .val (.ref S), .val (.int (Int32.ofNat (i + 1))), .val (.int (Int32.ofNat k)), .val (.int (Int32.ofNat k)), s7, .unset, .unset, .unset]) (pc' := 177) d2_174 rfl (own_one i) rfl rfl ?_
    refine Wp.goto (pc' := 155) d2_177 (by decide) (by decide) ?_
    exact ih (i + 1) h1 (by omega) O1

set_option maxRecDepth 65536 in
set_option maxHeartbeats 40000000 in
theorem phE (l : Launch) (Z : State) (a0 : Array Value) (hw : ∀ d ∈ tables_1, d.before a0 Z = true) (n0 n k : Nat) (F T : Addr) (kf kt : ClassId) (fs ts : List Nat) (hn : n ≤ 4) (hk : k ≤ 4) (hfl : fs.length = k) (htl : ts.length = k) (hfb : ∀ i, i < k → fs.getD i 0 < n) (htb : ∀ i, i < k → ts.getD i 0 < n) (Q : Option Value → Heap → Prop) (cells slots : Nat) (S R G : Addr) (kr kg : ClassId) (s7 : Slot) {Ls : List (Addr × (Cell → Prop))} (hc : ∀ i, i < k → ((own_E fs n i).1.getD (fs.getD i 0) 0) < k) (K : ∀ (h' : Heap), Hp h' n0 ((R, ArC Z kr .int (own_vals (own_E fs n k).1)) :: (G, ArC Z kg .int (own_vals ((own_E fs n k).2.map (ts.getD · 0)))) :: (F, ArC Z kf .int (own_vals fs)) :: (T, ArC Z kt .int (own_vals ts)) :: Ls) → Wp l Z (rmk 4 5 19 81) (⟨"com/example/frugal_retrieval/frugalretrieval/index/LinkGraph", "of", "(I[I[I)Lcom/example/frugal_retrieval/frugalretrieval/index/LinkGraph;"⟩ : MethodName) prog_48_method_2_code 11 (some (.object "com/example/frugal_retrieval/frugalretrieval/index/LinkGraph")) n0 Q h' cells slots 228 #[.val (.int (Int32.ofNat n)), .val (.ref F), .val (.ref T), .val (.ref S), .val (.ref R), .val (.ref G), .val (.int (Int32.ofNat k)), s7, .unset, .unset, .unset] []) :
    ∀ (r i : Nat) (h : Heap), i + r = k → Hp h n0 ((R, ArC Z kr .int (own_vals (own_E fs n i).1)) :: (G, ArC Z kg .int (own_vals ((own_E fs n i).2.map (ts.getD · 0)))) :: (F, ArC Z kf .int (own_vals fs)) :: (T, ArC Z kt .int (own_vals ts)) :: Ls) → Wp l Z (rmk 4 5 19 81) (⟨"com/example/frugal_retrieval/frugalretrieval/index/LinkGraph", "of", "(I[I[I)Lcom/example/frugal_retrieval/frugalretrieval/index/LinkGraph;"⟩ : MethodName) prog_48_method_2_code 11 (some (.object "com/example/frugal_retrieval/frugalretrieval/index/LinkGraph")) n0 Q h cells slots 196 #[.val (.int (Int32.ofNat n)), .val (.ref F), .val (.ref T), .val (.ref S), .val (.ref R), .val (.ref G), .val (.int (Int32.ofNat i)), s7, .unset, .unset, .unset] [] := by
  intro r
  induction r with
  | zero =>
    intro i h hi O
    refine Wp.iload (pc' := 198) d2_196 rfl rfl ?_
    refine Wp.aloadN (pc' := 199) d2_198 rfl rfl rfl ?_
    refine Wp.arrlen (i := 2) (z := (Int32.ofNat k)) (pc' := 200) O rfl d2_199 (by rw [own_vlen, hfl]) rfl ?_
    refine Wp.icmpY (pc' := 228) d2_200 (fun u => by have u2 := (own_lt (by omega) (by omega)).mp u; omega) (by decide) (by decide) ?_
    obtain rfl : i = k := by omega
    exact K h O
  | succ r ih =>
    intro i h hi O
    have hf := hfb i (by omega)
    have ht := htb i (by omega)
    have l1 := own_E1len fs n i
    have l2 := own_E2len fs n i
    have hp := hc i (by omega)
    refine Wp.iload (pc' := 198) d2_196 rfl rfl ?_
    refine Wp.aloadN (pc' := 199) d2_198 rfl rfl rfl ?_
    refine Wp.arrlen (i := 2) (z := (Int32.ofNat k)) (pc' := 200) O rfl d2_199 (by rw [own_vlen, hfl]) rfl ?_
    refine Wp.icmpN (pc' := 203) d2_200 (not_not_intro ((own_lt (by omega) (by omega)).mpr (by omega))) rfl ?_
    refine Wp.aload (pc' := 205) d2_203 rfl rfl rfl ?_
    refine Wp.aload (pc' := 207) d2_205 rfl rfl rfl ?_
    refine Wp.aloadN (pc' := 208) d2_207 rfl rfl rfl ?_
    refine Wp.iload (pc' := 210) d2_208 rfl rfl ?_
    refine Wp.iaload (i := 2) (jn := i) (v := (.int (Int32.ofNat (fs.getD i 0)))) (pc' := 211) O rfl d2_210 (own_nn (by omega)) (own_n32 (by omega)) (own_vget (own_gd (by omega))) rfl ?_
    refine Wp.dup2 (pc' := 212) d2_211 rfl rfl rfl ?_
    refine Wp.iaload (i := 0) (jn := (fs.getD i 0)) (v := (.int (Int32.ofNat ((own_E fs n i).1.getD (fs.getD i 0) 0)))) (pc' := 213) O rfl d2_212 (own_nn (by omega)) (own_n32 (by omega)) (own_vget (own_gd (by omega))) rfl ?_
    refine Wp.dupX2 (pc' := 214) d2_213 rfl rfl rfl rfl ?_
    refine Wp.iconst (z := (1 : Int32)) (pc' := 215) d2_214 (by decide) rfl ?_
    refine Wp.iadd (z := (Int32.ofNat (((own_E fs n i).1.getD (fs.getD i 0) 0) + 1))) (pc' := 216) d2_215 (own_one _) rfl ?_
    refine Wp.iastore (LA := []) (jn := (fs.getD i 0)) (pc' := 217) O d2_216 (own_nn (by omega)) (own_n32 (by omega)) (by rw [own_vlen]; omega) rfl ?_
    intro h1 O1
    rw [own_vset] at O1
    have O1 : Hp h1 n0 ((R, ArC Z kr .int (own_vals (own_E fs n (i + 1)).1)) :: (G, ArC Z kg .int (own_vals ((own_E fs n i).2.map (ts.getD · 0)))) :: (F, ArC Z kf .int (own_vals fs)) :: (T, ArC Z kt .int (own_vals ts)) :: Ls) := O1
    refine Wp.aloadN (pc' := 218) d2_217 rfl rfl rfl ?_
    refine Wp.iload (pc' := 220) d2_218 rfl rfl ?_
    refine Wp.iaload (i := 3) (jn := i) (v := (.int (Int32.ofNat (ts.getD i 0)))) (pc' := 221) O1 rfl d2_220 (own_nn (by omega)) (own_n32 (by omega)) (own_vget (own_gd (by omega))) rfl ?_
    refine Wp.iastore (LA := [_]) (jn := ((own_E fs n i).1.getD (fs.getD i 0) 0)) (pc' := 222) O1 d2_221 (own_nn (by omega)) (own_n32 (by omega)) (by rw [own_vlen, List.length_map]; omega) rfl ?_
    intro h2 O2
    rw [own_vset] at O2; rw [own_mapset] at O2
    have O2 : Hp h2 n0 ((R, ArC Z kr .int (own_vals (own_E fs n (i + 1)).1)) :: (G, ArC Z kg .int (own_vals ((own_E fs n (i + 1)).2.map (ts.getD · 0)))) :: (F, ArC Z kf .int (own_vals fs)) :: (T, ArC Z kt .int (own_vals ts)) :: Ls) := O2
    refine Wp.iinc (z := (Int32.ofNat (i + 1))) (L' := #[.val (.int (Int32.ofNat n)), .val (.ref F), .val (.ref T), .val (.ref S), .val (.ref R), .val (.ref G), .val (.int (Int32.ofNat (i + 1))), s7, .unset, .unset, .unset]) (pc' := 225) d2_222 rfl (own_one i) rfl rfl ?_
    refine Wp.goto (pc' := 196) d2_225 (by decide) (by decide) ?_
    exact ih (i + 1) h2 (by omega) O2

set_option maxRecDepth 65536 in
set_option maxHeartbeats 40000000 in
theorem phI (l : Launch) (Z : State) (a0 : Array Value) (hw : ∀ d ∈ tables_1, d.before a0 Z = true) (n0 n k : Nat) (F T : Addr) (kf kt : ClassId) (fs ts : List Nat) (hn : n ≤ 4) (hk : k ≤ 4) (hfl : fs.length = k) (htl : ts.length = k) (hfb : ∀ i, i < k → fs.getD i 0 < n) (htb : ∀ i, i < k → ts.getD i 0 < n) (Q : Option Value → Heap → Prop) (cells slots : Nat) (S R G : Addr) (kg : ClassId) (e a b z : Nat) (ss D : List Nat) {Ls : List (Addr × (Cell → Prop))} (hab : a ≤ b) (hb : b ≤ k) (hz : z ≤ a) (hsl : ss.length = b - a) (hsb : ∀ i, i < ss.length → ss.getD i 0 < 100)
    (K : ∀ (tg : List Nat) (h' : Heap), tg.length = k → tg.drop b = D → Hp h' n0 ((G, ArC Z kg .int (own_vals tg)) :: Ls) → Wp l Z (rmk 4 5 19 81) (⟨"com/example/frugal_retrieval/frugalretrieval/index/LinkGraph", "of", "(I[I[I)Lcom/example/frugal_retrieval/frugalretrieval/index/LinkGraph;"⟩ : MethodName) prog_48_method_2_code 11 (some (.object "com/example/frugal_retrieval/frugalretrieval/index/LinkGraph")) n0 Q h' cells slots 321 #[.val (.int (Int32.ofNat n)), .val (.ref F), .val (.ref T), .val (.ref S), .val (.ref R), .val (.ref G), .val (.int (Int32.ofNat (z + own_dc ss (b - a)))), .val (.int (Int32.ofNat e)), .val (.int (Int32.ofNat a)), .val (.int (Int32.ofNat b)), .val (.int (Int32.ofNat b))] []) :
    ∀ (r j : Nat) (tg : List Nat) (h : Heap), j + r = b → a ≤ j → tg.length = k → tg.drop j = (ss ++ D).drop (j - a) → (a < j → tg[(z + own_dc ss (j - a)) - 1]? = some (ss.getD (j - a - 1) 0)) → Hp h n0 ((G, ArC Z kg .int (own_vals tg)) :: Ls) → Wp l Z (rmk 4 5 19 81) (⟨"com/example/frugal_retrieval/frugalretrieval/index/LinkGraph", "of", "(I[I[I)Lcom/example/frugal_retrieval/frugalretrieval/index/LinkGraph;"⟩ : MethodName) prog_48_method_2_code 11 (some (.object "com/example/frugal_retrieval/frugalretrieval/index/LinkGraph")) n0 Q h cells slots 273 #[.val (.int (Int32.ofNat n)), .val (.ref F), .val (.ref T), .val (.ref S), .val (.ref R), .val (.ref G), .val (.int (Int32.ofNat (z + own_dc ss (j - a)))), .val (.int (Int32.ofNat e)), .val (.int (Int32.ofNat a)), .val (.int (Int32.ofNat b)), .val (.int (Int32.ofNat j))] [] := by
  intro r
  induction r with
  | zero =>
    intro j tg h hi haj htl2 hdr hlast O
    refine Wp.iload (pc' := 275) d2_273 rfl rfl ?_
    refine Wp.iload (pc' := 277) d2_275 rfl rfl ?_
    refine Wp.icmpY (pc' := 321) d2_277 (fun u => by have u2 := (own_lt (by omega) (by omega)).mp u; omega) (by decide) (by decide) ?_
    obtain rfl : j = b := by omega
    exact K tg h htl2 (by rw [hdr, List.drop_append, hsl]; simp [List.drop_of_length_le, hsl]) O
  | succ r ih =>
    intro j tg h hi haj htl2 hdr hlast O
    have dle := own_dcle ss (j - a)
    have hx : tg[j]? = some (ss.getD (j - a) 0) := own_drop hdr (by omega)
    have hxb : ss.getD (j - a) 0 < 100 := hsb _ (by omega)
    refine Wp.iload (pc' := 275) d2_273 rfl rfl ?_
    refine Wp.iload (pc' := 277) d2_275 rfl rfl ?_
    refine Wp.icmpN (pc' := 280) d2_277 (not_not_intro ((own_lt (by omega) (by omega)).mpr (by omega))) rfl ?_
    refine Wp.iload (pc' := 282) d2_280 rfl rfl ?_
    refine Wp.iload (pc' := 284) d2_282 rfl rfl ?_
    by_cases c284 : (Int32.ofNat j) = (Int32.ofNat a)
    · refine Wp.icmpY (pc' := 302) d2_284 c284 (by decide) (by decide) ?_
      have g284 : j = a := (own_inj (by omega) (by omega)).mp c284
      have e1 : own_dc ss (j + 1 - a) = own_dc ss (j - a) + 1 := by rw [show j + 1 - a = (j - a) + 1 from by omega, own_dc]; rw [if_pos (by omega)]
      refine Wp.aload (pc' := 304) d2_302 rfl rfl rfl ?_
      refine Wp.iload (pc' := 306) d2_304 rfl rfl ?_
      refine Wp.iinc (z := (Int32.ofNat ((z + own_dc ss (j - a)) + 1))) (L' := #[.val (.int (Int32.ofNat n)), .val (.ref F), .val (.ref T), .val (.ref S), .val (.ref R), .val (.ref G), .val (.int (Int32.ofNat ((z + own_dc ss (j - a)) + 1))), .val (.int (Int32.ofNat e)), .val (.int (Int32.ofNat a)), .val (.int (Int32.ofNat b)), .val (.int (Int32.ofNat j))]) (pc' := 309) d2_306 rfl (own_one _) rfl rfl ?_
      refine Wp.aload (pc' := 311) d2_309 rfl rfl rfl ?_
      refine Wp.iload (pc' := 313) d2_311 rfl rfl ?_
      refine Wp.iaload (i := 0) (jn := j) (v := (.int (Int32.ofNat (ss.getD (j - a) 0)))) (pc' := 314) O rfl d2_313 (own_nn (by omega)) (own_n32 (by omega)) (own_vget hx) rfl ?_
      refine Wp.iastore (LA := []) (jn := (z + own_dc ss (j - a))) (pc' := 315) O d2_314 (own_nn (by omega)) (own_n32 (by omega)) (by rw [own_vlen]; omega) rfl ?_
      intro h1 O1
      rw [own_vset] at O1
      have O1 : Hp h1 n0 ((G, ArC Z kg .int (own_vals (tg.set (z + own_dc ss (j - a)) (ss.getD (j - a) 0)))) :: Ls) := O1
      refine Wp.iinc (z := (Int32.ofNat (j + 1))) (L' := #[.val (.int (Int32.ofNat n)), .val (.ref F), .val (.ref T), .val (.ref S), .val (.ref R), .val (.ref G), .val (.int (Int32.ofNat ((z + own_dc ss (j - a)) + 1))), .val (.int (Int32.ofNat e)), .val (.int (Int32.ofNat a)), .val (.int (Int32.ofNat b)), .val (.int (Int32.ofNat (j + 1)))]) (pc' := 318) d2_315 rfl (own_one j) rfl rfl ?_
      refine Wp.goto (pc' := 273) d2_318 (by decide) (by decide) ?_
      have IH := ih (j + 1) (tg.set (z + own_dc ss (j - a)) (ss.getD (j - a) 0)) h1 (by omega) (by omega) (by rw [List.length_set]; exact htl2) (by rw [own_dropset (by omega), own_dropS hdr (by omega)]) (fun _ => by rw [e1, show z + (own_dc ss (j - a) + 1) - 1 = z + own_dc ss (j - a) from by omega, List.getElem?_set_self (by omega), show j + 1 - a - 1 = j - a from by omega]) O1
      rw [e1, show z + (own_dc ss (j - a) + 1) = z + own_dc ss (j - a) + 1 from rfl] at IH
      exact IH
    · refine Wp.icmpN (pc' := 287) d2_284 c284 rfl ?_
      have g284 : a < j := by rcases Nat.lt_or_ge a j with u | u; exact u; exact absurd (congrArg Int32.ofNat (show j = a by omega)) c284
      have dp := own_dcpos ss (j - a) (by omega)
      have hyb : (ss.getD (j - a - 1) 0) < 100 := hsb _ (by omega)
      refine Wp.aload (pc' := 289) d2_287 rfl rfl rfl ?_
      refine Wp.iload (pc' := 291) d2_289 rfl rfl ?_
      refine Wp.iaload (i := 0) (jn := j) (v := (.int (Int32.ofNat (ss.getD (j - a) 0)))) (pc' := 292) O rfl d2_291 (own_nn (by omega)) (own_n32 (by omega)) (own_vget hx) rfl ?_
      refine Wp.aload (pc' := 294) d2_292 rfl rfl rfl ?_
      refine Wp.iload (pc' := 296) d2_294 rfl rfl ?_
      refine Wp.iconst (z := (1 : Int32)) (pc' := 297) d2_296 (by decide) rfl ?_
      refine Wp.isub (z := (Int32.ofNat ((z + own_dc ss (j - a)) - 1))) (pc' := 298) d2_297 (own_sub (j := 1) (by omega)) rfl ?_
      refine Wp.iaload (i := 0) (jn := ((z + own_dc ss (j - a)) - 1)) (v := (.int (Int32.ofNat (ss.getD (j - a - 1) 0)))) (pc' := 299) O rfl d2_298 (own_nn (by omega)) (own_n32 (by omega)) (own_vget (hlast g284)) rfl ?_
      by_cases c299 : (Int32.ofNat (ss.getD (j - a) 0)) = (Int32.ofNat (ss.getD (j - a - 1) 0))
      · refine Wp.icmpY (pc' := 315) d2_299 c299 (by decide) (by decide) ?_
        have g299 : (ss.getD (j - a) 0) = (ss.getD (j - a - 1) 0) := (own_inj (by omega) (by omega)).mp c299
        have e1 : own_dc ss (j + 1 - a) = own_dc ss (j - a) := by rw [show j + 1 - a = (j - a) + 1 from by omega, own_dc, if_neg (by omega), if_pos g299]; rfl
        refine Wp.iinc (z := (Int32.ofNat (j + 1))) (L' := #[.val (.int (Int32.ofNat n)), .val (.ref F), .val (.ref T), .val (.ref S), .val (.ref R), .val (.ref G), .val (.int (Int32.ofNat (z + own_dc ss (j - a)))), .val (.int (Int32.ofNat e)), .val (.int (Int32.ofNat a)), .val (.int (Int32.ofNat b)), .val (.int (Int32.ofNat (j + 1)))]) (pc' := 318) d2_315 rfl (own_one j) rfl rfl ?_
        refine Wp.goto (pc' := 273) d2_318 (by decide) (by decide) ?_
        have IH := ih (j + 1) tg h (by omega) (by omega) htl2 (own_dropS hdr (by omega)) (fun _ => by rw [e1, hlast (by omega), show j + 1 - a - 1 = j - a from by omega, g299]) O
        rw [e1] at IH
        exact IH
      · refine Wp.icmpN (pc' := 302) d2_299 c299 rfl ?_
        have g299 : ¬ (ss.getD (j - a) 0) = (ss.getD (j - a - 1) 0) := fun q => c299 (by rw [q])
        have e1 : own_dc ss (j + 1 - a) = own_dc ss (j - a) + 1 := by rw [show j + 1 - a = (j - a) + 1 from by omega, own_dc]; rw [if_neg (by omega), if_neg g299]
        refine Wp.aload (pc' := 304) d2_302 rfl rfl rfl ?_
        refine Wp.iload (pc' := 306) d2_304 rfl rfl ?_
        refine Wp.iinc (z := (Int32.ofNat ((z + own_dc ss (j - a)) + 1))) (L' := #[.val (.int (Int32.ofNat n)), .val (.ref F), .val (.ref T), .val (.ref S), .val (.ref R), .val (.ref G), .val (.int (Int32.ofNat ((z + own_dc ss (j - a)) + 1))), .val (.int (Int32.ofNat e)), .val (.int (Int32.ofNat a)), .val (.int (Int32.ofNat b)), .val (.int (Int32.ofNat j))]) (pc' := 309) d2_306 rfl (own_one _) rfl rfl ?_
        refine Wp.aload (pc' := 311) d2_309 rfl rfl rfl ?_
        refine Wp.iload (pc' := 313) d2_311 rfl rfl ?_
        refine Wp.iaload (i := 0) (jn := j) (v := (.int (Int32.ofNat (ss.getD (j - a) 0)))) (pc' := 314) O rfl d2_313 (own_nn (by omega)) (own_n32 (by omega)) (own_vget hx) rfl ?_
        refine Wp.iastore (LA := []) (jn := (z + own_dc ss (j - a))) (pc' := 315) O d2_314 (own_nn (by omega)) (own_n32 (by omega)) (by rw [own_vlen]; omega) rfl ?_
        intro h2 O2
        rw [own_vset] at O2
        have O2 : Hp h2 n0 ((G, ArC Z kg .int (own_vals (tg.set (z + own_dc ss (j - a)) (ss.getD (j - a) 0)))) :: Ls) := O2
        refine Wp.iinc (z := (Int32.ofNat (j + 1))) (L' := #[.val (.int (Int32.ofNat n)), .val (.ref F), .val (.ref T), .val (.ref S), .val (.ref R), .val (.ref G), .val (.int (Int32.ofNat ((z + own_dc ss (j - a)) + 1))), .val (.int (Int32.ofNat e)), .val (.int (Int32.ofNat a)), .val (.int (Int32.ofNat b)), .val (.int (Int32.ofNat (j + 1)))]) (pc' := 318) d2_315 rfl (own_one j) rfl rfl ?_
        refine Wp.goto (pc' := 273) d2_318 (by decide) (by decide) ?_
        have IH := ih (j + 1) (tg.set (z + own_dc ss (j - a)) (ss.getD (j - a) 0)) h2 (by omega) (by omega) (by rw [List.length_set]; exact htl2) (by rw [own_dropset (by omega), own_dropS hdr (by omega)]) (fun _ => by rw [e1, show z + (own_dc ss (j - a) + 1) - 1 = z + own_dc ss (j - a) from by omega, List.getElem?_set_self (by omega), show j + 1 - a - 1 = j - a from by omega]) O2
        rw [e1, show z + (own_dc ss (j - a) + 1) = z + own_dc ss (j - a) + 1 from rfl] at IH
        exact IH

set_option maxRecDepth 65536 in
set_option maxHeartbeats 40000000 in
theorem phG (l : Launch) (Z : State) (a0 : Array Value) (hw : ∀ d ∈ tables_1, d.before a0 Z = true) (n0 n k : Nat) (F T : Addr) (kf kt : ClassId) (fs ts : List Nat) (hn : n ≤ 4) (hk : k ≤ 4) (hfl : fs.length = k) (htl : ts.length = k) (hfb : ∀ i, i < k → fs.getD i 0 < n) (htb : ∀ i, i < k → ts.getD i 0 < n) (Q : Option Value → Heap → Prop) (cells slots : Nat) (S R G : Addr) (kg ks : ClassId) (tg0 : List Nat) {Ls : List (Addr × (Cell → Prop))} (hcl : cells ≤ 5) (hsl : slots ≤ 19) (hc2 : ∀ e, e ≤ n → ((own_C fs n n).getD e 0) ≤ k) (hc3 : ∀ e, e < n → ((own_C fs n n).getD e 0) ≤ ((own_C fs n n).getD (e + 1) 0) ∧ (tg0.drop ((own_C fs n n).getD e 0)).take (((own_C fs n n).getD (e + 1) 0) - ((own_C fs n n).getD e 0)) = own_seg fs ts e) (hsz : ∀ e, e ≤ n → own_sz fs ts e ≤ ((own_C fs n n).getD e 0))
    (K : ∀ (tg : List Nat) (h' : Heap) (s8 s9 s10 : Slot), tg.length = k → Hp h' n0 ((G, ArC Z kg .int (own_vals tg)) :: (S, ArC Z ks .int (own_vals (own_F fs ts n n))) :: Ls) → Wp l Z (rmk 4 5 19 81) (⟨"com/example/frugal_retrieval/frugalretrieval/index/LinkGraph", "of", "(I[I[I)Lcom/example/frugal_retrieval/frugalretrieval/index/LinkGraph;"⟩ : MethodName) prog_48_method_2_code 11 (some (.object "com/example/frugal_retrieval/frugalretrieval/index/LinkGraph")) n0 Q h' cells slots 327 #[.val (.int (Int32.ofNat n)), .val (.ref F), .val (.ref T), .val (.ref S), .val (.ref R), .val (.ref G), .val (.int (Int32.ofNat (own_sz fs ts n))), .val (.int (Int32.ofNat n)), s8, s9, s10] []) :
    ∀ (r e : Nat) (tg : List Nat) (h : Heap) (s8 s9 s10 : Slot), e + r = n → tg.length = k → tg.drop ((own_C fs n n).getD e 0) = tg0.drop ((own_C fs n n).getD e 0) → One s8 → One s9 → One s10 → Hp h n0 ((G, ArC Z kg .int (own_vals tg)) :: (S, ArC Z ks .int (own_vals (own_F fs ts n e))) :: Ls) → Wp l Z (rmk 4 5 19 81) (⟨"com/example/frugal_retrieval/frugalretrieval/index/LinkGraph", "of", "(I[I[I)Lcom/example/frugal_retrieval/frugalretrieval/index/LinkGraph;"⟩ : MethodName) prog_48_method_2_code 11 (some (.object "com/example/frugal_retrieval/frugalretrieval/index/LinkGraph")) n0 Q h cells slots 234 #[.val (.int (Int32.ofNat n)), .val (.ref F), .val (.ref T), .val (.ref S), .val (.ref R), .val (.ref G), .val (.int (Int32.ofNat (own_sz fs ts e))), .val (.int (Int32.ofNat e)), s8, s9, s10] [] := by
  intro r
  induction r with
  | zero =>
    intro e tg h s8 s9 s10 hi htl2 hdr h8 h9 h10 O
    refine Wp.iload (pc' := 236) d2_234 rfl rfl ?_
    refine Wp.iloadN (pc' := 237) d2_236 rfl rfl ?_
    refine Wp.icmpY (pc' := 327) d2_237 (fun u => by have u2 := (own_lt (by omega) (by omega)).mp u; omega) (by decide) (by decide) ?_
    obtain rfl : e = n := by omega
    exact K tg h s8 s9 s10 htl2 O
  | succ r ih =>
    intro e tg h s8 s9 s10 hi htl2 hdr h8 h9 h10 O
    have ca := hc2 e (by omega)
    have cb := hc2 (e + 1) (by omega)
    have c3 := hc3 e (by omega)
    have szle := hsz e (by omega)
    have cl := own_Clen fs n n
    have fl := own_Flen fs ts n e
    obtain ⟨a, ea⟩ : ∃ z, z = ((own_C fs n n).getD e 0) := ⟨_, rfl⟩
    obtain ⟨b, eb⟩ : ∃ z, z = ((own_C fs n n).getD (e + 1) 0) := ⟨_, rfl⟩
    rw [← ea] at ca c3 szle hdr
    rw [← eb] at cb c3
    have fa : (own_F fs ts n e)[e]? = some a := by rw [own_Fhi fs ts n e e (by omega), ea]; exact own_gd (by omega)
    have fb : (own_F fs ts n e)[e + 1]? = some b := by rw [own_Fhi fs ts n e (e + 1) (by omega), eb]; exact own_gd (by omega)
    refine Wp.iload (pc' := 236) d2_234 rfl rfl ?_
    refine Wp.iloadN (pc' := 237) d2_236 rfl rfl ?_
    refine Wp.icmpN (pc' := 240) d2_237 (not_not_intro ((own_lt (by omega) (by omega)).mpr (by omega))) rfl ?_
    refine Wp.aloadN (pc' := 241) d2_240 rfl rfl rfl ?_
    refine Wp.iload (pc' := 243) d2_241 rfl rfl ?_
    refine Wp.iaload (i := 1) (jn := e) (v := (.int (Int32.ofNat a))) (pc' := 244) O rfl d2_243 (own_nn (by omega)) (own_n32 (by omega)) (own_vget fa) rfl ?_
    refine Wp.istore (L' := #[.val (.int (Int32.ofNat n)), .val (.ref F), .val (.ref T), .val (.ref S), .val (.ref R), .val (.ref G), .val (.int (Int32.ofNat (own_sz fs ts e))), .val (.int (Int32.ofNat e)), .val (.int (Int32.ofNat a)), s9, s10]) (pc' := 246) d2_244 (own_st rfl h8 rfl rfl) rfl ?_
    refine Wp.aloadN (pc' := 247) d2_246 rfl rfl rfl ?_
    refine Wp.iload (pc' := 249) d2_247 rfl rfl ?_
    refine Wp.iconst (z := (1 : Int32)) (pc' := 250) d2_249 (by decide) rfl ?_
    refine Wp.iadd (z := (Int32.ofNat (e + 1))) (pc' := 251) d2_250 (own_one e) rfl ?_
    refine Wp.iaload (i := 1) (jn := (e + 1)) (v := (.int (Int32.ofNat b))) (pc' := 252) O rfl d2_251 (own_nn (by omega)) (own_n32 (by omega)) (own_vget fb) rfl ?_
    refine Wp.istore (L' := #[.val (.int (Int32.ofNat n)), .val (.ref F), .val (.ref T), .val (.ref S), .val (.ref R), .val (.ref G), .val (.int (Int32.ofNat (own_sz fs ts e))), .val (.int (Int32.ofNat e)), .val (.int (Int32.ofNat a)), .val (.int (Int32.ofNat b)), s10]) (pc' := 254) d2_252 (own_st rfl h9 rfl rfl) rfl ?_
    refine Wp.aload (pc' := 256) d2_254 rfl rfl rfl ?_
    refine Wp.iload (pc' := 258) d2_256 rfl rfl ?_
    refine Wp.iload (pc' := 260) d2_258 rfl rfl ?_
    have sl : (own_seg fs ts e).length = b - a := by rw [← c3.2, ← hdr, List.length_take, List.length_drop]; omega
    have sb := own_segb hfl htb hn e
    have spl : tg = tg.take a ++ (own_seg fs ts e ++ tg.drop b) := by
      rw [← c3.2, ← hdr, show tg.drop b = (tg.drop a).drop (b - a) from by rw [List.drop_drop]; congr 1; omega, List.take_append_drop, List.take_append_drop]
    have tl_ : (tg.take a).length = a := by rw [List.length_take]; omega
    rw [spl] at O
    have ebb : a + (own_seg fs ts e).length = b := by omega
    rw [← ebb]
    refine Wp.callS (yy := (⟨"java/util/Arrays", "sort", "([III)V"⟩ : MethodName)) (pc' := 263) (argsL := [(.ref G), (.int (Int32.ofNat a)), (.int (Int32.ofNat (a + (own_seg fs ts e).length)))]) (S := []) (rm_srt l Z a0 hw G kg a (tg.take a) (own_seg fs ts e) (tg.drop b) (by omega) (by rw [List.length_drop]; omega) h n0 O tl_ (by omega) (fun z hz => by have := sb z hz; omega)) (hw _ (List.mem_of_getElem? (i := 24) rfl)) (hw _ (List.mem_of_getElem? (i := 25) rfl)) (hw _ (List.mem_of_getElem? (i := 14) rfl)) (hw _ (List.mem_of_getElem? (i := 26) rfl)) (by decide) (W := 0) rfl (lenOf pd_1 rfl) rfl rfl (Nat.le_refl 0) (by decide) (by decide) hcl hsl d2_260 rfl ?_
    rintro _ h1 ⟨rfl, O1⟩
    have O1 : Hp h1 n0 ((G, ArC Z kg .int (own_vals (tg.take a ++ (own_sort (own_seg fs ts e) ++ tg.drop b)))) :: (S, ArC Z ks .int (own_vals (own_F fs ts n e))) :: Ls) := O1
    show Wp _ _ _ _ _ _ _ _ _ _ _ _ 263 #[.val (.int (Int32.ofNat n)), .val (.ref F), .val (.ref T), .val (.ref S), .val (.ref R), .val (.ref G), .val (.int (Int32.ofNat (own_sz fs ts e))), .val (.int (Int32.ofNat e)), .val (.int (Int32.ofNat a)), .val (.int (Int32.ofNat (a + (own_seg fs ts e).length))), s10] []
    rw [ebb]
    show Wp _ _ _ _ _ _ _ _ _ _ _ _ 263 #[.val (.int (Int32.ofNat n)), .val (.ref F), .val (.ref T), .val (.ref S), .val (.ref R), .val (.ref G), .val (.int (Int32.ofNat (own_sz fs ts e))), .val (.int (Int32.ofNat e)), .val (.int (Int32.ofNat a)), .val (.int (Int32.ofNat b)), s10] []
    refine Wp.aloadN (pc' := 264) d2_263 rfl rfl rfl ?_
    refine Wp.iload (pc' := 266) d2_264 rfl rfl ?_
    refine Wp.iload (pc' := 268) d2_266 rfl rfl ?_
    refine Wp.iastore (LA := [_]) (jn := e) (pc' := 269) O1 d2_268 (own_nn (by omega)) (own_n32 (by omega)) (by rw [own_vlen]; omega) rfl ?_
    intro h2 O2
    rw [own_vset] at O2
    have O2 : Hp h2 n0 ((G, ArC Z kg .int (own_vals (tg.take a ++ (own_sort (own_seg fs ts e) ++ tg.drop b)))) :: (S, ArC Z ks .int (own_vals (own_F fs ts n (e + 1)))) :: Ls) := O2
    refine Wp.iload (pc' := 271) d2_269 rfl rfl ?_
    refine Wp.istore (L' := #[.val (.int (Int32.ofNat n)), .val (.ref F), .val (.ref T), .val (.ref S), .val (.ref R), .val (.ref G), .val (.int (Int32.ofNat (own_sz fs ts e))), .val (.int (Int32.ofNat e)), .val (.int (Int32.ofNat a)), .val (.int (Int32.ofNat b)), .val (.int (Int32.ofNat a))]) (pc' := 273) d2_271 (own_st rfl h10 rfl rfl) rfl ?_
    have ssl : (own_sort (own_seg fs ts e)).length = b - a := by rw [own_sortlen, sl]
    have z0 : own_sz fs ts e + own_dc (own_sort (own_seg fs ts e)) (a - a) = own_sz fs ts e := by rw [Nat.sub_self]; rfl
    rw [← z0]
    refine phI l Z a0 hw n0 n k F T kf kt fs ts hn hk hfl htl hfb htb Q cells slots S R G kg e a b (own_sz fs ts e) (own_sort (own_seg fs ts e)) (tg.drop b) c3.1 (by omega) szle ssl ?_ ?_ (b - a) a _ h2 (by omega) (Nat.le_refl _) ?_ ?_ (fun u => absurd u (Nat.lt_irrefl _)) O2
    · intro i hi; exact own_sortb (fun z hz => by have := sb z hz; omega) i hi
    · intro tg2 h2 l2 d2 O2
      rw [← sl]
      rw [show own_sz fs ts e + own_dc (own_sort (own_seg fs ts e)) (own_seg fs ts e).length = own_sz fs ts (e + 1) from rfl]
      show Wp _ _ _ _ _ _ _ _ _ _ _ _ 321 #[.val (.int (Int32.ofNat n)), .val (.ref F), .val (.ref T), .val (.ref S), .val (.ref R), .val (.ref G), .val (.int (Int32.ofNat (own_sz fs ts (e + 1)))), .val (.int (Int32.ofNat e)), .val (.int (Int32.ofNat a)), .val (.int (Int32.ofNat b)), .val (.int (Int32.ofNat b))] []
      refine Wp.iinc (z := (Int32.ofNat (e + 1))) (L' := #[.val (.int (Int32.ofNat n)), .val (.ref F), .val (.ref T), .val (.ref S), .val (.ref R), .val (.ref G), .val (.int (Int32.ofNat (own_sz fs ts (e + 1)))), .val (.int (Int32.ofNat (e + 1))), .val (.int (Int32.ofNat a)), .val (.int (Int32.ofNat b)), .val (.int (Int32.ofNat b))]) (pc' := 324) d2_321 rfl (own_one e) rfl rfl ?_
      refine Wp.goto (pc' := 234) d2_324 (by decide) (by decide) ?_
      exact ih (e + 1) tg2 h2 _ _ _ (by omega) l2 (by rw [← eb, d2, show tg.drop b = (tg.drop a).drop (b - a) from by rw [List.drop_drop]; congr 1; omega, hdr, List.drop_drop]; congr 1; omega) (One.val rfl) (One.val rfl) (One.val rfl) O2
    · simp; omega
    · rw [Nat.sub_self, List.drop_zero, List.drop_left' tl_]

set_option maxRecDepth 65536 in
set_option maxHeartbeats 40000000 in
theorem rm_of (l : Launch) (Z : State) (a0 : Array Value) (hw : ∀ d ∈ tables_1, d.before a0 Z = true) (n k : Nat) (F T : Addr) (kf kt : ClassId) (fs ts : List Nat) (hn : n ≤ 4) (hk : k ≤ 4) (hfl : fs.length = k) (htl : ts.length = k) (hfb : ∀ i, i < k → fs.getD i 0 < n) (htb : ∀ i, i < k → ts.getD i 0 < n) (h : Heap) (n0 : Nat) {Ls : List (Addr × (Cell → Prop))} (O : Hp h n0 ((F, ArC Z kf .int (own_vals fs)) :: (T, ArC Z kt .int (own_vals ts)) :: Ls)) (hc1 : ∀ i, i < k → ((own_E fs n i).1.getD (fs.getD i 0) 0) < k) (hc2 : ∀ e, e ≤ n → ((own_C fs n n).getD e 0) ≤ k) (hc3 : ∀ e, e < n → ((own_C fs n n).getD e 0) ≤ ((own_C fs n n).getD (e + 1) 0) ∧ (((own_E fs n k).2.map (ts.getD · 0)).drop ((own_C fs n n).getD e 0)).take (((own_C fs n n).getD (e + 1) 0) - ((own_C fs n n).getD e 0)) = own_seg fs ts e) (hsz : ∀ e, e ≤ n → own_sz fs ts e ≤ ((own_C fs n n).getD e 0)) :
    Met l Z (⟨"com/example/frugal_retrieval/frugalretrieval/index/LinkGraph", "of", "(I[I[I)Lcom/example/frugal_retrieval/frugalretrieval/index/LinkGraph;"⟩ : MethodName) prog_48_method_2_code 11 (some (.object "com/example/frugal_retrieval/frugalretrieval/index/LinkGraph")) (rmk 4 5 19 81) #[(.int (Int32.ofNat n)), (.ref F), (.ref T)] h n0 (fun v h' => ∃ g s b ks, v = some (.ref g) ∧ Hp h' n0 [(g, ObC Z a0 "com/example/frugal_retrieval/frugalretrieval/index/LinkGraph" [("starts", "[I", (.ref s)), ("targets", "[I", (.ref b))]), (s, ArC Z ks .int (own_vals (own_F fs ts n (n + 1))))]) := by
  refine Met.of (L0 := #[.val (.int (Int32.ofNat n)), .val (.ref F), .val (.ref T), .unset, .unset, .unset, .unset, .unset, .unset, .unset, .unset]) pn_g (own_ef rfl) ?_
  refine Wp.iloadN (pc' := 1) d2_0 rfl rfl ?_
  refine Wp.ifY (pc' := 18) d2_1 (own_nn (by omega)) (by decide) (by decide) ?_
  refine Wp.aloadN (pc' := 19) d2_18 rfl rfl rfl ?_
  refine Wp.arrlen (i := 0) (z := (Int32.ofNat k)) (pc' := 20) O rfl d2_19 (by rw [own_vlen, hfl]) rfl ?_
  refine Wp.aloadN (pc' := 21) d2_20 rfl rfl rfl ?_
  refine Wp.arrlen (i := 1) (z := (Int32.ofNat k)) (pc' := 22) O rfl d2_21 (by rw [own_vlen, htl]) rfl ?_
  refine Wp.icmpY (pc' := 42) d2_22 rfl (by decide) (by decide) ?_
  refine Wp.iconst (z := (0 : Int32)) (pc' := 43) d2_42 (by decide) rfl ?_
  refine Wp.istoreN (L' := #[.val (.int (Int32.ofNat n)), .val (.ref F), .val (.ref T), .val (.int (0 : Int32)), .unset, .unset, .unset, .unset, .unset, .unset, .unset]) (pc' := 44) d2_43 rfl rfl ?_
  refine phA l Z a0 hw n0 n k F T kf kt fs ts hn hk hfl htl hfb htb (fun v h' => ∃ g s b ks, v = some (.ref g) ∧ Hp h' n0 [(g, ObC Z a0 "com/example/frugal_retrieval/frugalretrieval/index/LinkGraph" [("starts", "[I", (.ref s)), ("targets", "[I", (.ref b))]), (s, ArC Z ks .int (own_vals (own_F fs ts n (n + 1))))]) _ _ h O ?_ k 0 (by omega)
  show Wp _ _ _ _ _ _ _ _ _ _ _ _ 105 #[.val (.int (Int32.ofNat n)), .val (.ref F), .val (.ref T), .val (.int (Int32.ofNat k)), .unset, .unset, .unset, .unset, .unset, .unset, .unset] []
  refine Wp.iloadN (pc' := 106) d2_105 rfl rfl ?_
  refine Wp.iconst (z := (1 : Int32)) (pc' := 107) d2_106 (by decide) rfl ?_
  refine Wp.iadd (z := (Int32.ofNat (n + 1))) (pc' := 108) d2_107 (own_one n) rfl ?_
  refine Wp.newarr (m := (n + 1)) (cap := 5) (pc' := 110) O (hw _ (List.mem_of_getElem? (i := 0) rfl)) d2_108 (own_nn (by omega)) (own_n32 (by omega)) (by omega) (by decide) (by decide) (by decide) rfl ?_
  intro h2 S k1 O2
  have O2 : Hp h2 n0 ((S, ArC Z k1 .int (List.replicate (n + 1) (.int (0 : Int32)))) :: (F, ArC Z kf .int (own_vals fs)) :: (T, ArC Z kt .int (own_vals ts)) :: Ls) := O2
  rw [own_vrep] at O2
  refine Wp.astoreN (L' := #[.val (.int (Int32.ofNat n)), .val (.ref F), .val (.ref T), .val (.ref S), .unset, .unset, .unset, .unset, .unset, .unset, .unset]) (pc' := 111) d2_110 rfl rfl rfl ?_
  refine Wp.aloadN (pc' := 112) d2_111 rfl rfl rfl ?_
  refine Wp.astore (L' := #[.val (.int (Int32.ofNat n)), .val (.ref F), .val (.ref T), .val (.ref S), .val (.ref F), .unset, .unset, .unset, .unset, .unset, .unset]) (pc' := 114) d2_112 rfl rfl rfl ?_
  refine Wp.aload (pc' := 116) d2_114 rfl rfl rfl ?_
  refine Wp.arrlen (i := 1) (z := (Int32.ofNat k)) (pc' := 117) O2 rfl d2_116 (by rw [own_vlen, hfl]) rfl ?_
  refine Wp.istore (L' := #[.val (.int (Int32.ofNat n)), .val (.ref F), .val (.ref T), .val (.ref S), .val (.ref F), .val (.int (Int32.ofNat k)), .unset, .unset, .unset, .unset, .unset]) (pc' := 119) d2_117 rfl rfl ?_
  refine Wp.iconst (z := (0 : Int32)) (pc' := 120) d2_119 (by decide) rfl ?_
  refine Wp.istore (L' := #[.val (.int (Int32.ofNat n)), .val (.ref F), .val (.ref T), .val (.ref S), .val (.ref F), .val (.int (Int32.ofNat k)), .val (.int (0 : Int32)), .unset, .unset, .unset, .unset]) (pc' := 122) d2_120 rfl rfl ?_
  refine phB l Z a0 hw n0 n k F T kf kt fs ts hn hk hfl htl hfb htb (fun v h' => ∃ g s b ks, v = some (.ref g) ∧ Hp h' n0 [(g, ObC Z a0 "com/example/frugal_retrieval/frugalretrieval/index/LinkGraph" [("starts", "[I", (.ref s)), ("targets", "[I", (.ref b))]), (s, ArC Z ks .int (own_vals (own_F fs ts n (n + 1))))]) _ _ S k1 ?_ k 0 .unset h2 (by omega) One.u O2
  intro h2 s7 h7 O2
  show Wp _ _ _ _ _ _ _ _ _ _ _ _ 152 #[.val (.int (Int32.ofNat n)), .val (.ref F), .val (.ref T), .val (.ref S), .val (.ref F), .val (.int (Int32.ofNat k)), .val (.int (Int32.ofNat k)), s7, .unset, .unset, .unset] []
  refine Wp.iconst (z := (0 : Int32)) (pc' := 153) d2_152 (by decide) rfl ?_
  refine Wp.istore (L' := #[.val (.int (Int32.ofNat n)), .val (.ref F), .val (.ref T), .val (.ref S), .val (.int (0 : Int32)), .val (.int (Int32.ofNat k)), .val (.int (Int32.ofNat k)), s7, .unset, .unset, .unset]) (pc' := 155) d2_153 rfl rfl ?_
  refine phC l Z a0 hw n0 n k F T kf kt fs ts hn hk hfl htl hfb htb (fun v h' => ∃ g s b ks, v = some (.ref g) ∧ Hp h' n0 [(g, ObC Z a0 "com/example/frugal_retrieval/frugalretrieval/index/LinkGraph" [("starts", "[I", (.ref s)), ("targets", "[I", (.ref b))]), (s, ArC Z ks .int (own_vals (own_F fs ts n (n + 1))))]) _ _ S k1 s7 ?_ n 0 h2 (by omega) (by rw [own_C, hfl]; exact O2)
  intro h3 O3
  show Wp _ _ _ _ _ _ _ _ _ _ _ _ 180 #[.val (.int (Int32.ofNat n)), .val (.ref F), .val (.ref T), .val (.ref S), .val (.int (Int32.ofNat n)), .val (.int (Int32.ofNat k)), .val (.int (Int32.ofNat k)), s7, .unset, .unset, .unset] []
  refine Wp.aloadN (pc' := 181) d2_180 rfl rfl rfl ?_
  refine Wp.iloadN (pc' := 182) d2_181 rfl rfl ?_
  refine Wp.callS (yy := (⟨"java/util/Arrays", "copyOf", "([II)[I"⟩ : MethodName)) (pc' := 185) (argsL := [(.ref S), (.int (Int32.ofNat n))]) (S := []) (rm_cpN l Z a0 hw S k1 (own_C fs n n) n hn (by rw [own_Clen]; omega) h3 n0 O3 (by rw [own_Clen]; omega)) (hw _ (List.mem_of_getElem? (i := 12) rfl)) (hw _ (List.mem_of_getElem? (i := 13) rfl)) (hw _ (List.mem_of_getElem? (i := 14) rfl)) (hw _ (List.mem_of_getElem? (i := 15) rfl)) (by decide) (W := 0) rfl (lenOf pd_6 rfl) rfl rfl (Nat.le_refl 0) (by decide) (by decide) (by decide) (by decide) d2_182 rfl ?_
  rintro _ h4 ⟨R, kr, rfl, O4⟩
  show Wp _ _ _ _ _ _ _ _ _ _ _ _ 185 #[.val (.int (Int32.ofNat n)), .val (.ref F), .val (.ref T), .val (.ref S), .val (.int (Int32.ofNat n)), .val (.int (Int32.ofNat k)), .val (.int (Int32.ofNat k)), s7, .unset, .unset, .unset] [(.ref R)]
  refine Wp.astore (L' := #[.val (.int (Int32.ofNat n)), .val (.ref F), .val (.ref T), .val (.ref S), .val (.ref R), .val (.int (Int32.ofNat k)), .val (.int (Int32.ofNat k)), s7, .unset, .unset, .unset]) (pc' := 187) d2_185 rfl rfl rfl ?_
  refine Wp.aloadN (pc' := 188) d2_187 rfl rfl rfl ?_
  refine Wp.arrlen (i := 2) (z := (Int32.ofNat k)) (pc' := 189) O4 rfl d2_188 (by rw [own_vlen, hfl]) rfl ?_
  refine Wp.newarrE (m := k) (cap := 4) (ad := "[I") (pc' := 191) O4 (hw _ (List.mem_of_getElem? (i := 0) rfl)) d2_189 rfl (own_nn (by omega)) (own_n32 (by omega)) (by omega) (by decide) (by decide) (by decide) rfl ?_
  intro h4 G k3 hkg O4
  have O4 : Hp h4 n0 ((G, ArC Z k3 .int (List.replicate k (.int (0 : Int32)))) :: (R, ArC Z kr .int (own_vals ((own_C fs n n).take n))) :: (S, ArC Z k1 .int (own_vals (own_C fs n n))) :: (F, ArC Z kf .int (own_vals fs)) :: (T, ArC Z kt .int (own_vals ts)) :: Ls) := O4
  rw [own_vrep, own_lab0 fs n ts k hfl (by omega)] at O4
  refine Wp.astore (L' := #[.val (.int (Int32.ofNat n)), .val (.ref F), .val (.ref T), .val (.ref S), .val (.ref R), .val (.ref G), .val (.int (Int32.ofNat k)), s7, .unset, .unset, .unset]) (pc' := 193) d2_191 rfl rfl rfl ?_
  refine Wp.iconst (z := (0 : Int32)) (pc' := 194) d2_193 (by decide) rfl ?_
  refine Wp.istore (L' := #[.val (.int (Int32.ofNat n)), .val (.ref F), .val (.ref T), .val (.ref S), .val (.ref R), .val (.ref G), .val (.int (0 : Int32)), s7, .unset, .unset, .unset]) (pc' := 196) d2_194 rfl rfl ?_
  have O5 : Hp h4 n0 ((T, ArC Z kt .int (own_vals ts)) :: (G, ArC Z k3 .int (own_vals ((own_E fs n 0).2.map (ts.getD · 0)))) :: (R, ArC Z kr .int (own_vals ((own_C fs n n).take n))) :: (S, ArC Z k1 .int (own_vals (own_C fs n n))) :: (F, ArC Z kf .int (own_vals fs)) :: Ls) := Hp.front (LA := [_, _, _, _]) O4
  have O6 : Hp h4 n0 ((F, ArC Z kf .int (own_vals fs)) :: (T, ArC Z kt .int (own_vals ts)) :: (G, ArC Z k3 .int (own_vals ((own_E fs n 0).2.map (ts.getD · 0)))) :: (R, ArC Z kr .int (own_vals ((own_C fs n n).take n))) :: (S, ArC Z k1 .int (own_vals (own_C fs n n))) :: Ls) := Hp.front (LA := [_, _, _, _]) O5
  have O7 : Hp h4 n0 ((G, ArC Z k3 .int (own_vals ((own_E fs n 0).2.map (ts.getD · 0)))) :: (F, ArC Z kf .int (own_vals fs)) :: (T, ArC Z kt .int (own_vals ts)) :: (R, ArC Z kr .int (own_vals ((own_C fs n n).take n))) :: (S, ArC Z k1 .int (own_vals (own_C fs n n))) :: Ls) := Hp.front (LA := [_, _]) O6
  have O8 : Hp h4 n0 ((R, ArC Z kr .int (own_vals ((own_C fs n n).take n))) :: (G, ArC Z k3 .int (own_vals ((own_E fs n 0).2.map (ts.getD · 0)))) :: (F, ArC Z kf .int (own_vals fs)) :: (T, ArC Z kt .int (own_vals ts)) :: (S, ArC Z k1 .int (own_vals (own_C fs n n))) :: Ls) := Hp.front (LA := [_, _, _]) O7
  refine phE l Z a0 hw n0 n k F T kf kt fs ts hn hk hfl htl hfb htb (fun v h' => ∃ g s b ks, v = some (.ref g) ∧ Hp h' n0 [(g, ObC Z a0 "com/example/frugal_retrieval/frugalretrieval/index/LinkGraph" [("starts", "[I", (.ref s)), ("targets", "[I", (.ref b))]), (s, ArC Z ks .int (own_vals (own_F fs ts n (n + 1))))]) _ _ S R G kr k3 s7 hc1 ?_ k 0 h4 (by omega) O8
  intro h5 O5
  show Wp _ _ _ _ _ _ _ _ _ _ _ _ 228 #[.val (.int (Int32.ofNat n)), .val (.ref F), .val (.ref T), .val (.ref S), .val (.ref R), .val (.ref G), .val (.int (Int32.ofNat k)), s7, .unset, .unset, .unset] []
  refine Wp.iconst (z := (0 : Int32)) (pc' := 229) d2_228 (by decide) rfl ?_
  refine Wp.istore (L' := #[.val (.int (Int32.ofNat n)), .val (.ref F), .val (.ref T), .val (.ref S), .val (.ref R), .val (.ref G), .val (.int (0 : Int32)), s7, .unset, .unset, .unset]) (pc' := 231) d2_229 rfl rfl ?_
  refine Wp.iconst (z := (0 : Int32)) (pc' := 232) d2_231 (by decide) rfl ?_
  refine Wp.istore (L' := #[.val (.int (Int32.ofNat n)), .val (.ref F), .val (.ref T), .val (.ref S), .val (.ref R), .val (.ref G), .val (.int (0 : Int32)), .val (.int (0 : Int32)), .unset, .unset, .unset]) (pc' := 234) d2_232 (own_st rfl h7 rfl rfl) rfl ?_
  have O9 : Hp h5 n0 ((S, ArC Z k1 .int (own_vals (own_C fs n n))) :: (R, ArC Z kr .int (own_vals (own_E fs n k).1)) :: (G, ArC Z k3 .int (own_vals ((own_E fs n k).2.map (ts.getD · 0)))) :: (F, ArC Z kf .int (own_vals fs)) :: (T, ArC Z kt .int (own_vals ts)) :: Ls) := Hp.front (LA := [_, _, _, _]) O5
  have O10 : Hp h5 n0 ((G, ArC Z k3 .int (own_vals ((own_E fs n k).2.map (ts.getD · 0)))) :: (S, ArC Z k1 .int (own_vals (own_C fs n n))) :: (R, ArC Z kr .int (own_vals (own_E fs n k).1)) :: (F, ArC Z kf .int (own_vals fs)) :: (T, ArC Z kt .int (own_vals ts)) :: Ls) := Hp.front (LA := [_, _]) O9
  refine phG l Z a0 hw n0 n k F T kf kt fs ts hn hk hfl htl hfb htb (fun v h' => ∃ g s b ks, v = some (.ref g) ∧ Hp h' n0 [(g, ObC Z a0 "com/example/frugal_retrieval/frugalretrieval/index/LinkGraph" [("starts", "[I", (.ref s)), ("targets", "[I", (.ref b))]), (s, ArC Z ks .int (own_vals (own_F fs ts n (n + 1))))]) _ _ S R G k3 k1 ((own_E fs n k).2.map (ts.getD · 0)) (by decide) (by decide) hc2 hc3 hsz ?_ n 0 ((own_E fs n k).2.map (ts.getD · 0)) h5 .unset .unset .unset (by omega) (by rw [List.length_map, own_E2len, hfl]) rfl One.u One.u One.u O10
  intro tg h6 s8 s9 s10 htl2 O6
  show Wp _ _ _ _ _ _ _ _ _ _ _ _ 327 #[.val (.int (Int32.ofNat n)), .val (.ref F), .val (.ref T), .val (.ref S), .val (.ref R), .val (.ref G), .val (.int (Int32.ofNat (own_sz fs ts n))), .val (.int (Int32.ofNat n)), s8, s9, s10] []
  refine Wp.aloadN (pc' := 328) d2_327 rfl rfl rfl ?_
  refine Wp.iloadN (pc' := 329) d2_328 rfl rfl ?_
  refine Wp.iload (pc' := 331) d2_329 rfl rfl ?_
  refine Wp.iastore (LA := [_]) (jn := n) (pc' := 332) O6 d2_331 (own_nn (by omega)) (own_n32 (by omega)) (by rw [own_vlen, own_Flen]; omega) rfl ?_
  intro h11 O11
  rw [own_vset] at O11
  have O11 : Hp h11 n0 ((G, ArC Z k3 .int (own_vals tg)) :: (S, ArC Z k1 .int (own_vals (own_F fs ts n (n + 1)))) :: (R, ArC Z kr .int (own_vals (own_E fs n k).1)) :: (F, ArC Z kf .int (own_vals fs)) :: (T, ArC Z kt .int (own_vals ts)) :: Ls) := O11
  refine Wp.newO (pc' := 335) O11 (hw _ (List.mem_of_getElem? (i := 40) rfl)) (hw _ (List.mem_of_getElem? (i := 41) rfl)) (hw _ (List.mem_of_getElem? (i := 10) rfl)) [("starts", "[I", .null), ("targets", "[I", .null)] (List.forall_mem_cons.2 ⟨⟨Or.inr (hw _ (List.mem_of_getElem? (i := 58) rfl)), (.array .int), by decide, rfl⟩, (List.forall_mem_cons.2 ⟨⟨Or.inr (hw _ (List.mem_of_getElem? (i := 60) rfl)), (.array .int), by decide, rfl⟩, (fun _ q => nomatch q)⟩)⟩) d2_332 (by decide) (by decide) rfl ?_
  intro h12 gr O12
  have O12 : Hp h12 n0 ((gr, ObC Z a0 "com/example/frugal_retrieval/frugalretrieval/index/LinkGraph" [("starts", "[I", .null), ("targets", "[I", .null)]) :: (G, ArC Z k3 .int (own_vals tg)) :: (S, ArC Z k1 .int (own_vals (own_F fs ts n (n + 1)))) :: (R, ArC Z kr .int (own_vals (own_E fs n k).1)) :: (F, ArC Z kf .int (own_vals fs)) :: (T, ArC Z kt .int (own_vals ts)) :: Ls) := O12
  refine Wp.dup (pc' := 336) d2_335 rfl rfl ?_
  refine Wp.aloadN (pc' := 337) d2_336 rfl rfl rfl ?_
  refine Wp.aload (pc' := 339) d2_337 rfl rfl rfl ?_
  refine Wp.iload (pc' := 341) d2_339 rfl rfl ?_
  have O13 : Hp h12 n0 ((G, ArC Z k3 .int (own_vals tg)) :: (gr, ObC Z a0 "com/example/frugal_retrieval/frugalretrieval/index/LinkGraph" [("starts", "[I", .null), ("targets", "[I", .null)]) :: (S, ArC Z k1 .int (own_vals (own_F fs ts n (n + 1)))) :: (R, ArC Z kr .int (own_vals (own_E fs n k).1)) :: (F, ArC Z kf .int (own_vals fs)) :: (T, ArC Z kt .int (own_vals ts)) :: Ls) := Hp.front (LA := [_]) O12
  have szk := hsz n (Nat.le_refl _)
  have ck := hc2 n (Nat.le_refl _)
  refine Wp.callS (yy := (⟨"java/util/Arrays", "copyOf", "([II)[I"⟩ : MethodName)) (pc' := 344) (argsL := [(.ref G), (.int (Int32.ofNat (own_sz fs ts n)))]) (S := [(.ref S), (.ref gr), (.ref gr)]) (rm_cpL l Z a0 hw G k3 tg (own_sz fs ts n) (by omega) (by omega) hkg h12 n0 O13 (by omega)) (hw _ (List.mem_of_getElem? (i := 12) rfl)) (hw _ (List.mem_of_getElem? (i := 13) rfl)) (hw _ (List.mem_of_getElem? (i := 14) rfl)) (hw _ (List.mem_of_getElem? (i := 15) rfl)) (by decide) (W := 3) rfl (lenOf pd_6 rfl) rfl rfl (Nat.le_refl 3) (by decide) (by decide) (by decide) (by decide) d2_341 rfl ?_
  rintro _ h14 ⟨⟨b9, rfl⟩, O14⟩
  have O14 : Hp h14 n0 ((G, ArC Z k3 .int (own_vals tg)) :: (gr, ObC Z a0 "com/example/frugal_retrieval/frugalretrieval/index/LinkGraph" [("starts", "[I", .null), ("targets", "[I", .null)]) :: (S, ArC Z k1 .int (own_vals (own_F fs ts n (n + 1)))) :: (R, ArC Z kr .int (own_vals (own_E fs n k).1)) :: (F, ArC Z kf .int (own_vals fs)) :: (T, ArC Z kt .int (own_vals ts)) :: Ls) := O14
  show Wp _ _ _ _ _ _ _ _ _ _ _ _ 344 #[.val (.int (Int32.ofNat n)), .val (.ref F), .val (.ref T), .val (.ref S), .val (.ref R), .val (.ref G), .val (.int (Int32.ofNat (own_sz fs ts n))), .val (.int (Int32.ofNat n)), s8, s9, s10] [(.ref b9), (.ref S), (.ref gr), (.ref gr)]
  have O15 : Hp h14 n0 ((gr, ObC Z a0 "com/example/frugal_retrieval/frugalretrieval/index/LinkGraph" [("starts", "[I", .null), ("targets", "[I", .null)]) :: (G, ArC Z k3 .int (own_vals tg)) :: (S, ArC Z k1 .int (own_vals (own_F fs ts n (n + 1)))) :: (R, ArC Z kr .int (own_vals (own_E fs n k).1)) :: (F, ArC Z kf .int (own_vals fs)) :: (T, ArC Z kt .int (own_vals ts)) :: Ls) := Hp.front (LA := [_]) O14
  refine Wp.callI (yy := (⟨"com/example/frugal_retrieval/frugalretrieval/index/LinkGraph", "<init>", "([I[I)V"⟩ : MethodName)) (pc' := 347) (argsL := [(.ref S), (.ref b9)]) (a := gr) (S := [(.ref gr)]) (rm_ini l Z a0 hw gr S b9 h14 n0 O15) rfl (hw _ (List.mem_of_getElem? (i := 51) rfl)) (hw _ (List.mem_of_getElem? (i := 52) rfl)) (hw _ (List.mem_of_getElem? (i := 10) rfl)) (hw _ (List.mem_of_getElem? (i := 53) rfl)) (by decide) (W := 1) rfl (lenOf pd_7 rfl) rfl rfl (Nat.le_refl 1) (by decide) (by decide) (by decide) (by decide) d2_344 rfl ?_
  rintro _ h16 ⟨rfl, O16⟩
  have O16 : Hp h16 n0 ((gr, ObC Z a0 "com/example/frugal_retrieval/frugalretrieval/index/LinkGraph" [("starts", "[I", (.ref S)), ("targets", "[I", (.ref b9))]) :: (G, ArC Z k3 .int (own_vals tg)) :: (S, ArC Z k1 .int (own_vals (own_F fs ts n (n + 1)))) :: (R, ArC Z kr .int (own_vals (own_E fs n k).1)) :: (F, ArC Z kf .int (own_vals fs)) :: (T, ArC Z kt .int (own_vals ts)) :: Ls) := O16
  show Wp _ _ _ _ _ _ _ _ _ _ _ _ 347 #[.val (.int (Int32.ofNat n)), .val (.ref F), .val (.ref T), .val (.ref S), .val (.ref R), .val (.ref G), .val (.int (Int32.ofNat (own_sz fs ts n))), .val (.int (Int32.ofNat n)), s8, s9, s10] [(.ref gr)]
  have O17 : Hp h16 n0 ((S, ArC Z k1 .int (own_vals (own_F fs ts n (n + 1)))) :: (gr, ObC Z a0 "com/example/frugal_retrieval/frugalretrieval/index/LinkGraph" [("starts", "[I", (.ref S)), ("targets", "[I", (.ref b9))]) :: (G, ArC Z k3 .int (own_vals tg)) :: (R, ArC Z kr .int (own_vals (own_E fs n k).1)) :: (F, ArC Z kf .int (own_vals fs)) :: (T, ArC Z kt .int (own_vals ts)) :: Ls) := Hp.front (LA := [_, _]) O16
  have O18 : Hp h16 n0 ((gr, ObC Z a0 "com/example/frugal_retrieval/frugalretrieval/index/LinkGraph" [("starts", "[I", (.ref S)), ("targets", "[I", (.ref b9))]) :: (S, ArC Z k1 .int (own_vals (own_F fs ts n (n + 1)))) :: (G, ArC Z k3 .int (own_vals tg)) :: (R, ArC Z kr .int (own_vals (own_E fs n k).1)) :: (F, ArC Z kf .int (own_vals fs)) :: (T, ArC Z kt .int (own_vals ts)) :: Ls) := Hp.front (LA := [_]) O17
  exact Wp.retA (t := (.object "com/example/frugal_retrieval/frugalretrieval/index/LinkGraph")) rfl rfl rfl rfl d2_347 (by decide) (by decide) ⟨gr, S, b9, k1, rfl, own_two O18⟩

set_option maxRecDepth 65536 in
set_option maxHeartbeats 40000000 in
theorem rm0 (l : Launch) (Z : State) (a0 : Array Value) (hw : ∀ d ∈ tables_1, d.before a0 Z = true) (p0 p1 p2 : Int32) (h : Heap) (n0 : Nat) (Z0 : n0 ≤ h.size) :
    Met l Z x code maxLocals ret room_1 #[(.int p0), (.int p1), (.int p2)] h n0 (fun v _ => v = some (.int 1)) := by
  refine Met.of (L0 := #[.val (.int p0), .val (.int p1), .val (.int p2), .unset, .unset, .unset, .unset, .unset, .unset, .unset]) pn_l (own_ef rfl) ?_
  have O : Hp h n0 [] := Hp.nil Z0
  refine Wp.iconst (z := (1 : Int32)) (pc' := 1) at_0 (by decide) rfl ?_
  refine Wp.iloadN (pc' := 2) at_1 rfl rfl ?_
  refine Wp.iconst (z := (3 : Int32)) (pc' := 3) at_2 (by decide) rfl ?_
  obtain ⟨q, hq, -, eq⟩ := own_nat (b := 3) (own_three p0).1 (own_three p0).2
  refine Wp.iand (z := (Int32.ofNat q)) (pc' := 4) at_3 eq rfl ?_
  refine Wp.iadd (z := (Int32.ofNat (1 + q))) (pc' := 5) at_4 (own_add 1 q) rfl ?_
  have hnz : Int32.ofNat (1 + q) ≠ 0 := fun u => by rw [show (0 : Int32) = Int32.ofNat 0 from rfl, own_inj (by omega) (by omega)] at u; omega
  refine Wp.istoreN (L' := #[.val (.int p0), .val (.int p1), .val (.int p2), .val (.int (Int32.ofNat (1 + q))), .unset, .unset, .unset, .unset, .unset, .unset]) (pc' := 6) at_5 rfl rfl ?_
  refine Wp.iloadN (pc' := 7) at_6 rfl rfl ?_
  refine Wp.iconst (z := (2 : Int32)) (pc' := 8) at_7 (by decide) rfl ?_
  refine Wp.iushr (z := (Free.XT.ushr p0 (2 : Int32))) (pc' := 9) at_8 rfl rfl ?_
  refine Wp.bipush (z := (7 : Int32)) (pc' := 11) at_9 (by decide) rfl ?_
  refine Wp.iand (z := ((Free.XT.ushr p0 (2 : Int32)) &&& (7 : Int32))) (pc' := 12) at_11 rfl rfl ?_
  refine Wp.iconst (z := (5 : Int32)) (pc' := 13) at_12 (by decide) rfl ?_
  obtain ⟨k, hk4, -, ek⟩ := own_nat (b := 4) (own_k5 (Free.XT.ushr p0 (2 : Int32))).1 (own_k5 (Free.XT.ushr p0 (2 : Int32))).2
  refine Wp.irem (z := (Int32.ofNat k)) (pc' := 14) at_13 (by decide) ek rfl ?_
  refine Wp.istore (L' := #[.val (.int p0), .val (.int p1), .val (.int p2), .val (.int (Int32.ofNat (1 + q))), .val (.int (Int32.ofNat k)), .unset, .unset, .unset, .unset, .unset]) (pc' := 16) at_14 rfl rfl ?_
  refine Wp.iloadN (pc' := 17) at_16 rfl rfl ?_
  refine Wp.iconst (z := (5 : Int32)) (pc' := 18) at_17 (by decide) rfl ?_
  refine Wp.iushr (z := (Free.XT.ushr p0 (5 : Int32))) (pc' := 19) at_18 rfl rfl ?_
  refine Wp.iconst (z := (3 : Int32)) (pc' := 20) at_19 (by decide) rfl ?_
  refine Wp.iand (z := ((Free.XT.ushr p0 (5 : Int32)) &&& (3 : Int32))) (pc' := 21) at_20 rfl rfl ?_
  refine Wp.iloadN (pc' := 22) at_21 rfl rfl ?_
  obtain ⟨d, hd', -, ed⟩ := own_nat (b := 1 + q - 1) (own_dm (Free.XT.ushr p0 (5 : Int32)) (1 + q) (by omega) (by omega)).1 (own_dm (Free.XT.ushr p0 (5 : Int32)) (1 + q) (by omega) (by omega)).2
  have hd : d < 1 + q := by omega
  refine Wp.irem (z := (Int32.ofNat d)) (pc' := 23) at_22 hnz ed rfl ?_
  refine Wp.istore (L' := #[.val (.int p0), .val (.int p1), .val (.int p2), .val (.int (Int32.ofNat (1 + q))), .val (.int (Int32.ofNat k)), .val (.int (Int32.ofNat d)), .unset, .unset, .unset, .unset]) (pc' := 25) at_23 rfl rfl ?_
  refine Wp.iconst (z := (4 : Int32)) (pc' := 26) at_25 (by decide) rfl ?_
  refine Wp.newarr (m := 4) (cap := 4) (pc' := 28) O (hw _ (List.mem_of_getElem? (i := 0) rfl)) at_26 (by decide) rfl (Nat.le_refl _) (by decide) (by decide) (by decide) rfl ?_
  intro h2 F k1 O2
  have O2 : Hp h2 n0 [(F, ArC Z k1 .int [(.int (0 : Int32)), (.int (0 : Int32)), (.int (0 : Int32)), (.int (0 : Int32))])] := O2
  refine Wp.astore (L' := #[.val (.int p0), .val (.int p1), .val (.int p2), .val (.int (Int32.ofNat (1 + q))), .val (.int (Int32.ofNat k)), .val (.int (Int32.ofNat d)), .val (.ref F), .unset, .unset, .unset]) (pc' := 30) at_28 rfl rfl rfl ?_
  refine Wp.iconst (z := (4 : Int32)) (pc' := 31) at_30 (by decide) rfl ?_
  refine Wp.newarr (m := 4) (cap := 4) (pc' := 33) O2 (hw _ (List.mem_of_getElem? (i := 0) rfl)) at_31 (by decide) rfl (Nat.le_refl _) (by decide) (by decide) (by decide) rfl ?_
  intro h4 T k3 O4
  have O4 : Hp h4 n0 [(T, ArC Z k3 .int [(.int (0 : Int32)), (.int (0 : Int32)), (.int (0 : Int32)), (.int (0 : Int32))]), (F, ArC Z k1 .int [(.int (0 : Int32)), (.int (0 : Int32)), (.int (0 : Int32)), (.int (0 : Int32))])] := O4
  refine Wp.astore (L' := #[.val (.int p0), .val (.int p1), .val (.int p2), .val (.int (Int32.ofNat (1 + q))), .val (.int (Int32.ofNat k)), .val (.int (Int32.ofNat d)), .val (.ref F), .val (.ref T), .unset, .unset]) (pc' := 35) at_33 rfl rfl rfl ?_
  refine Wp.aload (pc' := 37) at_35 rfl rfl rfl ?_
  refine Wp.iconst (z := (0 : Int32)) (pc' := 38) at_37 (by decide) rfl ?_
  refine Wp.iloadN (pc' := 39) at_38 rfl rfl ?_
  refine Wp.iconst (z := (3 : Int32)) (pc' := 40) at_39 (by decide) rfl ?_
  refine Wp.iand (z := (p1 &&& (3 : Int32))) (pc' := 41) at_40 rfl rfl ?_
  refine Wp.iloadN (pc' := 42) at_41 rfl rfl ?_
  obtain ⟨f0, hf0', -, ef0⟩ := own_nat (b := 1 + q - 1) (own_dm p1 (1 + q) (by omega) (by omega)).1 (own_dm p1 (1 + q) (by omega) (by omega)).2
  have hf0 : f0 < 1 + q := by omega
  refine Wp.irem (z := (Int32.ofNat f0)) (pc' := 43) at_42 hnz ef0 rfl ?_
  refine Wp.iastore (LA := [_]) (jn := 0) (pc' := 44) O4 at_43 (by decide) rfl (by first | decide | simp) rfl ?_
  intro h5 O5
  have O5 : Hp h5 n0 [(T, ArC Z k3 .int [(.int (0 : Int32)), (.int (0 : Int32)), (.int (0 : Int32)), (.int (0 : Int32))]), (F, ArC Z k1 .int [(.int (Int32.ofNat f0)), (.int (0 : Int32)), (.int (0 : Int32)), (.int (0 : Int32))])] := O5
  refine Wp.aload (pc' := 46) at_44 rfl rfl rfl ?_
  refine Wp.iconst (z := (1 : Int32)) (pc' := 47) at_46 (by decide) rfl ?_
  refine Wp.iloadN (pc' := 48) at_47 rfl rfl ?_
  refine Wp.iconst (z := (2 : Int32)) (pc' := 49) at_48 (by decide) rfl ?_
  refine Wp.iushr (z := (Free.XT.ushr p1 (2 : Int32))) (pc' := 50) at_49 rfl rfl ?_
  refine Wp.iconst (z := (3 : Int32)) (pc' := 51) at_50 (by decide) rfl ?_
  refine Wp.iand (z := ((Free.XT.ushr p1 (2 : Int32)) &&& (3 : Int32))) (pc' := 52) at_51 rfl rfl ?_
  refine Wp.iloadN (pc' := 53) at_52 rfl rfl ?_
  obtain ⟨f1, hf1', -, ef1⟩ := own_nat (b := 1 + q - 1) (own_dm (Free.XT.ushr p1 (2 : Int32)) (1 + q) (by omega) (by omega)).1 (own_dm (Free.XT.ushr p1 (2 : Int32)) (1 + q) (by omega) (by omega)).2
  have hf1 : f1 < 1 + q := by omega
  refine Wp.irem (z := (Int32.ofNat f1)) (pc' := 54) at_53 hnz ef1 rfl ?_
  refine Wp.iastore (LA := [_]) (jn := 1) (pc' := 55) O5 at_54 (by decide) rfl (by first | decide | simp) rfl ?_
  intro h6 O6
  have O6 : Hp h6 n0 [(T, ArC Z k3 .int [(.int (0 : Int32)), (.int (0 : Int32)), (.int (0 : Int32)), (.int (0 : Int32))]), (F, ArC Z k1 .int [(.int (Int32.ofNat f0)), (.int (Int32.ofNat f1)), (.int (0 : Int32)), (.int (0 : Int32))])] := O6
  refine Wp.aload (pc' := 57) at_55 rfl rfl rfl ?_
  refine Wp.iconst (z := (2 : Int32)) (pc' := 58) at_57 (by decide) rfl ?_
  refine Wp.iloadN (pc' := 59) at_58 rfl rfl ?_
  refine Wp.iconst (z := (4 : Int32)) (pc' := 60) at_59 (by decide) rfl ?_
  refine Wp.iushr (z := (Free.XT.ushr p1 (4 : Int32))) (pc' := 61) at_60 rfl rfl ?_
  refine Wp.iconst (z := (3 : Int32)) (pc' := 62) at_61 (by decide) rfl ?_
  refine Wp.iand (z := ((Free.XT.ushr p1 (4 : Int32)) &&& (3 : Int32))) (pc' := 63) at_62 rfl rfl ?_
  refine Wp.iloadN (pc' := 64) at_63 rfl rfl ?_
  obtain ⟨f2, hf2', -, ef2⟩ := own_nat (b := 1 + q - 1) (own_dm (Free.XT.ushr p1 (4 : Int32)) (1 + q) (by omega) (by omega)).1 (own_dm (Free.XT.ushr p1 (4 : Int32)) (1 + q) (by omega) (by omega)).2
  have hf2 : f2 < 1 + q := by omega
  refine Wp.irem (z := (Int32.ofNat f2)) (pc' := 65) at_64 hnz ef2 rfl ?_
  refine Wp.iastore (LA := [_]) (jn := 2) (pc' := 66) O6 at_65 (by decide) rfl (by first | decide | simp) rfl ?_
  intro h7 O7
  have O7 : Hp h7 n0 [(T, ArC Z k3 .int [(.int (0 : Int32)), (.int (0 : Int32)), (.int (0 : Int32)), (.int (0 : Int32))]), (F, ArC Z k1 .int [(.int (Int32.ofNat f0)), (.int (Int32.ofNat f1)), (.int (Int32.ofNat f2)), (.int (0 : Int32))])] := O7
  refine Wp.aload (pc' := 68) at_66 rfl rfl rfl ?_
  refine Wp.iconst (z := (3 : Int32)) (pc' := 69) at_68 (by decide) rfl ?_
  refine Wp.iloadN (pc' := 70) at_69 rfl rfl ?_
  refine Wp.bipush (z := (6 : Int32)) (pc' := 72) at_70 (by decide) rfl ?_
  refine Wp.iushr (z := (Free.XT.ushr p1 (6 : Int32))) (pc' := 73) at_72 rfl rfl ?_
  refine Wp.iconst (z := (3 : Int32)) (pc' := 74) at_73 (by decide) rfl ?_
  refine Wp.iand (z := ((Free.XT.ushr p1 (6 : Int32)) &&& (3 : Int32))) (pc' := 75) at_74 rfl rfl ?_
  refine Wp.iloadN (pc' := 76) at_75 rfl rfl ?_
  obtain ⟨f3, hf3', -, ef3⟩ := own_nat (b := 1 + q - 1) (own_dm (Free.XT.ushr p1 (6 : Int32)) (1 + q) (by omega) (by omega)).1 (own_dm (Free.XT.ushr p1 (6 : Int32)) (1 + q) (by omega) (by omega)).2
  have hf3 : f3 < 1 + q := by omega
  refine Wp.irem (z := (Int32.ofNat f3)) (pc' := 77) at_76 hnz ef3 rfl ?_
  refine Wp.iastore (LA := [_]) (jn := 3) (pc' := 78) O7 at_77 (by decide) rfl (by first | decide | simp) rfl ?_
  intro h8 O8
  have O8 : Hp h8 n0 [(T, ArC Z k3 .int [(.int (0 : Int32)), (.int (0 : Int32)), (.int (0 : Int32)), (.int (0 : Int32))]), (F, ArC Z k1 .int [(.int (Int32.ofNat f0)), (.int (Int32.ofNat f1)), (.int (Int32.ofNat f2)), (.int (Int32.ofNat f3))])] := O8
  refine Wp.aload (pc' := 80) at_78 rfl rfl rfl ?_
  refine Wp.iconst (z := (0 : Int32)) (pc' := 81) at_80 (by decide) rfl ?_
  refine Wp.iloadN (pc' := 82) at_81 rfl rfl ?_
  refine Wp.iconst (z := (3 : Int32)) (pc' := 83) at_82 (by decide) rfl ?_
  refine Wp.iand (z := (p2 &&& (3 : Int32))) (pc' := 84) at_83 rfl rfl ?_
  refine Wp.iloadN (pc' := 85) at_84 rfl rfl ?_
  obtain ⟨t0, ht0', -, et0⟩ := own_nat (b := 1 + q - 1) (own_dm p2 (1 + q) (by omega) (by omega)).1 (own_dm p2 (1 + q) (by omega) (by omega)).2
  have ht0 : t0 < 1 + q := by omega
  refine Wp.irem (z := (Int32.ofNat t0)) (pc' := 86) at_85 hnz et0 rfl ?_
  refine Wp.iastore (LA := []) (jn := 0) (pc' := 87) O8 at_86 (by decide) rfl (by first | decide | simp) rfl ?_
  intro h9 O9
  have O9 : Hp h9 n0 [(T, ArC Z k3 .int [(.int (Int32.ofNat t0)), (.int (0 : Int32)), (.int (0 : Int32)), (.int (0 : Int32))]), (F, ArC Z k1 .int [(.int (Int32.ofNat f0)), (.int (Int32.ofNat f1)), (.int (Int32.ofNat f2)), (.int (Int32.ofNat f3))])] := O9
  refine Wp.aload (pc' := 89) at_87 rfl rfl rfl ?_
  refine Wp.iconst (z := (1 : Int32)) (pc' := 90) at_89 (by decide) rfl ?_
  refine Wp.iloadN (pc' := 91) at_90 rfl rfl ?_
  refine Wp.iconst (z := (2 : Int32)) (pc' := 92) at_91 (by decide) rfl ?_
  refine Wp.iushr (z := (Free.XT.ushr p2 (2 : Int32))) (pc' := 93) at_92 rfl rfl ?_
  refine Wp.iconst (z := (3 : Int32)) (pc' := 94) at_93 (by decide) rfl ?_
  refine Wp.iand (z := ((Free.XT.ushr p2 (2 : Int32)) &&& (3 : Int32))) (pc' := 95) at_94 rfl rfl ?_
  refine Wp.iloadN (pc' := 96) at_95 rfl rfl ?_
  obtain ⟨t1, ht1', -, et1⟩ := own_nat (b := 1 + q - 1) (own_dm (Free.XT.ushr p2 (2 : Int32)) (1 + q) (by omega) (by omega)).1 (own_dm (Free.XT.ushr p2 (2 : Int32)) (1 + q) (by omega) (by omega)).2
  have ht1 : t1 < 1 + q := by omega
  refine Wp.irem (z := (Int32.ofNat t1)) (pc' := 97) at_96 hnz et1 rfl ?_
  refine Wp.iastore (LA := []) (jn := 1) (pc' := 98) O9 at_97 (by decide) rfl (by first | decide | simp) rfl ?_
  intro h10 O10
  have O10 : Hp h10 n0 [(T, ArC Z k3 .int [(.int (Int32.ofNat t0)), (.int (Int32.ofNat t1)), (.int (0 : Int32)), (.int (0 : Int32))]), (F, ArC Z k1 .int [(.int (Int32.ofNat f0)), (.int (Int32.ofNat f1)), (.int (Int32.ofNat f2)), (.int (Int32.ofNat f3))])] := O10
  refine Wp.aload (pc' := 100) at_98 rfl rfl rfl ?_
  refine Wp.iconst (z := (2 : Int32)) (pc' := 101) at_100 (by decide) rfl ?_
  refine Wp.iloadN (pc' := 102) at_101 rfl rfl ?_
  refine Wp.iconst (z := (4 : Int32)) (pc' := 103) at_102 (by decide) rfl ?_
  refine Wp.iushr (z := (Free.XT.ushr p2 (4 : Int32))) (pc' := 104) at_103 rfl rfl ?_
  refine Wp.iconst (z := (3 : Int32)) (pc' := 105) at_104 (by decide) rfl ?_
  refine Wp.iand (z := ((Free.XT.ushr p2 (4 : Int32)) &&& (3 : Int32))) (pc' := 106) at_105 rfl rfl ?_
  refine Wp.iloadN (pc' := 107) at_106 rfl rfl ?_
  obtain ⟨t2, ht2', -, et2⟩ := own_nat (b := 1 + q - 1) (own_dm (Free.XT.ushr p2 (4 : Int32)) (1 + q) (by omega) (by omega)).1 (own_dm (Free.XT.ushr p2 (4 : Int32)) (1 + q) (by omega) (by omega)).2
  have ht2 : t2 < 1 + q := by omega
  refine Wp.irem (z := (Int32.ofNat t2)) (pc' := 108) at_107 hnz et2 rfl ?_
  refine Wp.iastore (LA := []) (jn := 2) (pc' := 109) O10 at_108 (by decide) rfl (by first | decide | simp) rfl ?_
  intro h11 O11
  have O11 : Hp h11 n0 [(T, ArC Z k3 .int [(.int (Int32.ofNat t0)), (.int (Int32.ofNat t1)), (.int (Int32.ofNat t2)), (.int (0 : Int32))]), (F, ArC Z k1 .int [(.int (Int32.ofNat f0)), (.int (Int32.ofNat f1)), (.int (Int32.ofNat f2)), (.int (Int32.ofNat f3))])] := O11
  refine Wp.aload (pc' := 111) at_109 rfl rfl rfl ?_
  refine Wp.iconst (z := (3 : Int32)) (pc' := 112) at_111 (by decide) rfl ?_
  refine Wp.iloadN (pc' := 113) at_112 rfl rfl ?_
  refine Wp.bipush (z := (6 : Int32)) (pc' := 115) at_113 (by decide) rfl ?_
  refine Wp.iushr (z := (Free.XT.ushr p2 (6 : Int32))) (pc' := 116) at_115 rfl rfl ?_
  refine Wp.iconst (z := (3 : Int32)) (pc' := 117) at_116 (by decide) rfl ?_
  refine Wp.iand (z := ((Free.XT.ushr p2 (6 : Int32)) &&& (3 : Int32))) (pc' := 118) at_117 rfl rfl ?_
  refine Wp.iloadN (pc' := 119) at_118 rfl rfl ?_
  obtain ⟨t3, ht3', -, et3⟩ := own_nat (b := 1 + q - 1) (own_dm (Free.XT.ushr p2 (6 : Int32)) (1 + q) (by omega) (by omega)).1 (own_dm (Free.XT.ushr p2 (6 : Int32)) (1 + q) (by omega) (by omega)).2
  have ht3 : t3 < 1 + q := by omega
  refine Wp.irem (z := (Int32.ofNat t3)) (pc' := 120) at_119 hnz et3 rfl ?_
  refine Wp.iastore (LA := []) (jn := 3) (pc' := 121) O11 at_120 (by decide) rfl (by first | decide | simp) rfl ?_
  intro h12 O12
  have O12 : Hp h12 n0 [(T, ArC Z k3 .int [(.int (Int32.ofNat t0)), (.int (Int32.ofNat t1)), (.int (Int32.ofNat t2)), (.int (Int32.ofNat t3))]), (F, ArC Z k1 .int [(.int (Int32.ofNat f0)), (.int (Int32.ofNat f1)), (.int (Int32.ofNat f2)), (.int (Int32.ofNat f3))])] := O12
  have O13 : Hp h12 n0 [(F, ArC Z k1 .int [(.int (Int32.ofNat f0)), (.int (Int32.ofNat f1)), (.int (Int32.ofNat f2)), (.int (Int32.ofNat f3))]), (T, ArC Z k3 .int [(.int (Int32.ofNat t0)), (.int (Int32.ofNat t1)), (.int (Int32.ofNat t2)), (.int (Int32.ofNat t3))])] := Hp.front (LA := [_]) O12
  have hfb : ∀ i, ([f0, f1, f2, f3] : List Nat).getD i 0 < 100 := own_four4 (by omega) (by omega) (by omega) (by omega)
  have htb : ∀ i, ([t0, t1, t2, t3] : List Nat).getD i 0 < 100 := own_four4 (by omega) (by omega) (by omega) (by omega)
  refine Wp.iconst (z := (0 : Int32)) (pc' := 122) at_121 (by decide) rfl ?_
  refine Wp.iload (pc' := 124) at_122 rfl rfl ?_
  refine Wp.iload (pc' := 126) at_124 rfl rfl ?_
  refine Wp.aload (pc' := 128) at_126 rfl rfl rfl ?_
  refine Wp.aload (pc' := 130) at_128 rfl rfl rfl ?_
  refine Wp.callS (yy := (⟨"com/example/frugal_retrieval/frugalretrieval/index/LinkGraphOutDegreePinLaw", "slot", "(III[I[I)I"⟩ : MethodName)) (pc' := 133) (argsL := [(.int (0 : Int32)), (.int (Int32.ofNat k)), (.int (Int32.ofNat d)), (.ref F), (.ref T)]) (S := []) (rm_slot l Z a0 hw F T k1 k3 [f0, f1, f2, f3] [t0, t1, t2, t3] rfl rfl hfb htb 0 k d (by omega) (by omega) (by omega) h12 n0 O13) (hw _ (List.mem_of_getElem? (i := 1) rfl)) (hw _ (List.mem_of_getElem? (i := 2) rfl)) (hw _ (List.mem_of_getElem? (i := 3) rfl)) (hw _ (List.mem_of_getElem? (i := 4) rfl)) (by decide) (W := 0) rfl (lenOf pd_8 rfl) rfl rfl (Nat.le_refl 0) (by decide) (by decide) (by decide) (by decide) at_130 rfl ?_
  rintro _ _ ⟨rfl, rfl⟩
  show Wp _ _ _ _ _ _ _ _ _ _ _ _ 133 #[.val (.int p0), .val (.int p1), .val (.int p2), .val (.int (Int32.ofNat (1 + q))), .val (.int (Int32.ofNat k)), .val (.int (Int32.ofNat d)), .val (.ref F), .val (.ref T), .unset, .unset] [(.int (Int32.ofNat (own_slot 0 k d ([f0, f1, f2, f3].getD · 0) ([t0, t1, t2, t3].getD · 0))))]
  refine Wp.iconst (z := (1 : Int32)) (pc' := 134) at_133 (by decide) rfl ?_
  refine Wp.iload (pc' := 136) at_134 rfl rfl ?_
  refine Wp.iload (pc' := 138) at_136 rfl rfl ?_
  refine Wp.aload (pc' := 140) at_138 rfl rfl rfl ?_
  refine Wp.aload (pc' := 142) at_140 rfl rfl rfl ?_
  refine Wp.callS (yy := (⟨"com/example/frugal_retrieval/frugalretrieval/index/LinkGraphOutDegreePinLaw", "slot", "(III[I[I)I"⟩ : MethodName)) (pc' := 145) (argsL := [(.int (1 : Int32)), (.int (Int32.ofNat k)), (.int (Int32.ofNat d)), (.ref F), (.ref T)]) (S := [(.int (Int32.ofNat (own_slot 0 k d ([f0, f1, f2, f3].getD · 0) ([t0, t1, t2, t3].getD · 0))))]) (rm_slot l Z a0 hw F T k1 k3 [f0, f1, f2, f3] [t0, t1, t2, t3] rfl rfl hfb htb 1 k d (by omega) (by omega) (by omega) h12 n0 O13) (hw _ (List.mem_of_getElem? (i := 1) rfl)) (hw _ (List.mem_of_getElem? (i := 2) rfl)) (hw _ (List.mem_of_getElem? (i := 3) rfl)) (hw _ (List.mem_of_getElem? (i := 4) rfl)) (by decide) (W := 1) rfl (lenOf pd_8 rfl) rfl rfl (Nat.le_refl 1) (by decide) (by decide) (by decide) (by decide) at_142 rfl ?_
  rintro _ _ ⟨rfl, rfl⟩
  show Wp _ _ _ _ _ _ _ _ _ _ _ _ 145 #[.val (.int p0), .val (.int p1), .val (.int p2), .val (.int (Int32.ofNat (1 + q))), .val (.int (Int32.ofNat k)), .val (.int (Int32.ofNat d)), .val (.ref F), .val (.ref T), .unset, .unset] [(.int (Int32.ofNat (own_slot 1 k d ([f0, f1, f2, f3].getD · 0) ([t0, t1, t2, t3].getD · 0)))), (.int (Int32.ofNat (own_slot 0 k d ([f0, f1, f2, f3].getD · 0) ([t0, t1, t2, t3].getD · 0))))]
  refine Wp.iadd (z := (Int32.ofNat ((own_slot 0 k d ([f0, f1, f2, f3].getD · 0) ([t0, t1, t2, t3].getD · 0)) + (own_slot 1 k d ([f0, f1, f2, f3].getD · 0) ([t0, t1, t2, t3].getD · 0))))) (pc' := 146) at_145 (own_add _ _) rfl ?_
  refine Wp.iconst (z := (2 : Int32)) (pc' := 147) at_146 (by decide) rfl ?_
  refine Wp.iload (pc' := 149) at_147 rfl rfl ?_
  refine Wp.iload (pc' := 151) at_149 rfl rfl ?_
  refine Wp.aload (pc' := 153) at_151 rfl rfl rfl ?_
  refine Wp.aload (pc' := 155) at_153 rfl rfl rfl ?_
  refine Wp.callS (yy := (⟨"com/example/frugal_retrieval/frugalretrieval/index/LinkGraphOutDegreePinLaw", "slot", "(III[I[I)I"⟩ : MethodName)) (pc' := 158) (argsL := [(.int (2 : Int32)), (.int (Int32.ofNat k)), (.int (Int32.ofNat d)), (.ref F), (.ref T)]) (S := [(.int (Int32.ofNat ((own_slot 0 k d ([f0, f1, f2, f3].getD · 0) ([t0, t1, t2, t3].getD · 0)) + (own_slot 1 k d ([f0, f1, f2, f3].getD · 0) ([t0, t1, t2, t3].getD · 0)))))]) (rm_slot l Z a0 hw F T k1 k3 [f0, f1, f2, f3] [t0, t1, t2, t3] rfl rfl hfb htb 2 k d (by omega) (by omega) (by omega) h12 n0 O13) (hw _ (List.mem_of_getElem? (i := 1) rfl)) (hw _ (List.mem_of_getElem? (i := 2) rfl)) (hw _ (List.mem_of_getElem? (i := 3) rfl)) (hw _ (List.mem_of_getElem? (i := 4) rfl)) (by decide) (W := 1) rfl (lenOf pd_8 rfl) rfl rfl (Nat.le_refl 1) (by decide) (by decide) (by decide) (by decide) at_155 rfl ?_
  rintro _ _ ⟨rfl, rfl⟩
  show Wp _ _ _ _ _ _ _ _ _ _ _ _ 158 #[.val (.int p0), .val (.int p1), .val (.int p2), .val (.int (Int32.ofNat (1 + q))), .val (.int (Int32.ofNat k)), .val (.int (Int32.ofNat d)), .val (.ref F), .val (.ref T), .unset, .unset] [(.int (Int32.ofNat (own_slot 2 k d ([f0, f1, f2, f3].getD · 0) ([t0, t1, t2, t3].getD · 0)))), (.int (Int32.ofNat ((own_slot 0 k d ([f0, f1, f2, f3].getD · 0) ([t0, t1, t2, t3].getD · 0)) + (own_slot 1 k d ([f0, f1, f2, f3].getD · 0) ([t0, t1, t2, t3].getD · 0)))))]
  refine Wp.iadd (z := (Int32.ofNat (((own_slot 0 k d ([f0, f1, f2, f3].getD · 0) ([t0, t1, t2, t3].getD · 0)) + (own_slot 1 k d ([f0, f1, f2, f3].getD · 0) ([t0, t1, t2, t3].getD · 0))) + (own_slot 2 k d ([f0, f1, f2, f3].getD · 0) ([t0, t1, t2, t3].getD · 0))))) (pc' := 159) at_158 (own_add _ _) rfl ?_
  refine Wp.iconst (z := (3 : Int32)) (pc' := 160) at_159 (by decide) rfl ?_
  refine Wp.iload (pc' := 162) at_160 rfl rfl ?_
  refine Wp.iload (pc' := 164) at_162 rfl rfl ?_
  refine Wp.aload (pc' := 166) at_164 rfl rfl rfl ?_
  refine Wp.aload (pc' := 168) at_166 rfl rfl rfl ?_
  refine Wp.callS (yy := (⟨"com/example/frugal_retrieval/frugalretrieval/index/LinkGraphOutDegreePinLaw", "slot", "(III[I[I)I"⟩ : MethodName)) (pc' := 171) (argsL := [(.int (3 : Int32)), (.int (Int32.ofNat k)), (.int (Int32.ofNat d)), (.ref F), (.ref T)]) (S := [(.int (Int32.ofNat (((own_slot 0 k d ([f0, f1, f2, f3].getD · 0) ([t0, t1, t2, t3].getD · 0)) + (own_slot 1 k d ([f0, f1, f2, f3].getD · 0) ([t0, t1, t2, t3].getD · 0))) + (own_slot 2 k d ([f0, f1, f2, f3].getD · 0) ([t0, t1, t2, t3].getD · 0)))))]) (rm_slot l Z a0 hw F T k1 k3 [f0, f1, f2, f3] [t0, t1, t2, t3] rfl rfl hfb htb 3 k d (by omega) (by omega) (by omega) h12 n0 O13) (hw _ (List.mem_of_getElem? (i := 1) rfl)) (hw _ (List.mem_of_getElem? (i := 2) rfl)) (hw _ (List.mem_of_getElem? (i := 3) rfl)) (hw _ (List.mem_of_getElem? (i := 4) rfl)) (by decide) (W := 1) rfl (lenOf pd_8 rfl) rfl rfl (Nat.le_refl 1) (by decide) (by decide) (by decide) (by decide) at_168 rfl ?_
  rintro _ _ ⟨rfl, rfl⟩
  show Wp _ _ _ _ _ _ _ _ _ _ _ _ 171 #[.val (.int p0), .val (.int p1), .val (.int p2), .val (.int (Int32.ofNat (1 + q))), .val (.int (Int32.ofNat k)), .val (.int (Int32.ofNat d)), .val (.ref F), .val (.ref T), .unset, .unset] [(.int (Int32.ofNat (own_slot 3 k d ([f0, f1, f2, f3].getD · 0) ([t0, t1, t2, t3].getD · 0)))), (.int (Int32.ofNat (((own_slot 0 k d ([f0, f1, f2, f3].getD · 0) ([t0, t1, t2, t3].getD · 0)) + (own_slot 1 k d ([f0, f1, f2, f3].getD · 0) ([t0, t1, t2, t3].getD · 0))) + (own_slot 2 k d ([f0, f1, f2, f3].getD · 0) ([t0, t1, t2, t3].getD · 0)))))]
  refine Wp.iadd (z := (Int32.ofNat ((((own_slot 0 k d ([f0, f1, f2, f3].getD · 0) ([t0, t1, t2, t3].getD · 0)) + (own_slot 1 k d ([f0, f1, f2, f3].getD · 0) ([t0, t1, t2, t3].getD · 0))) + (own_slot 2 k d ([f0, f1, f2, f3].getD · 0) ([t0, t1, t2, t3].getD · 0))) + (own_slot 3 k d ([f0, f1, f2, f3].getD · 0) ([t0, t1, t2, t3].getD · 0))))) (pc' := 172) at_171 (own_add _ _) rfl ?_
  refine Wp.istore (L' := #[.val (.int p0), .val (.int p1), .val (.int p2), .val (.int (Int32.ofNat (1 + q))), .val (.int (Int32.ofNat k)), .val (.int (Int32.ofNat d)), .val (.ref F), .val (.ref T), .val (.int (Int32.ofNat ((((own_slot 0 k d ([f0, f1, f2, f3].getD · 0) ([t0, t1, t2, t3].getD · 0)) + (own_slot 1 k d ([f0, f1, f2, f3].getD · 0) ([t0, t1, t2, t3].getD · 0))) + (own_slot 2 k d ([f0, f1, f2, f3].getD · 0) ([t0, t1, t2, t3].getD · 0))) + (own_slot 3 k d ([f0, f1, f2, f3].getD · 0) ([t0, t1, t2, t3].getD · 0))))), .unset]) (pc' := 174) at_172 rfl rfl ?_
  refine Wp.iloadN (pc' := 175) at_174 rfl rfl ?_
  refine Wp.aload (pc' := 177) at_175 rfl rfl rfl ?_
  refine Wp.iload (pc' := 179) at_177 rfl rfl ?_
  refine Wp.callS (yy := (⟨"com/example/frugal_retrieval/frugalretrieval/index/LinkGraphOutDegreePinLaw", "prefix", "([II)[I"⟩ : MethodName)) (pc' := 182) (argsL := [(.ref F), (.int (Int32.ofNat k))]) (S := [(.int (Int32.ofNat (1 + q)))]) (rm_pre l Z a0 hw F k1 f0 f1 f2 f3 k (by omega) h12 n0 O13) (hw _ (List.mem_of_getElem? (i := 5) rfl)) (hw _ (List.mem_of_getElem? (i := 6) rfl)) (hw _ (List.mem_of_getElem? (i := 3) rfl)) (hw _ (List.mem_of_getElem? (i := 7) rfl)) (by decide) (W := 1) rfl (lenOf pd_6 rfl) rfl rfl (Nat.le_refl 1) (by decide) (by decide) (by decide) (by decide) at_179 rfl ?_
  rintro _ h2 ⟨PF, kpf, rfl, O2⟩
  show Wp _ _ _ _ _ _ _ _ _ _ _ _ 182 #[.val (.int p0), .val (.int p1), .val (.int p2), .val (.int (Int32.ofNat (1 + q))), .val (.int (Int32.ofNat k)), .val (.int (Int32.ofNat d)), .val (.ref F), .val (.ref T), .val (.int (Int32.ofNat ((((own_slot 0 k d ([f0, f1, f2, f3].getD · 0) ([t0, t1, t2, t3].getD · 0)) + (own_slot 1 k d ([f0, f1, f2, f3].getD · 0) ([t0, t1, t2, t3].getD · 0))) + (own_slot 2 k d ([f0, f1, f2, f3].getD · 0) ([t0, t1, t2, t3].getD · 0))) + (own_slot 3 k d ([f0, f1, f2, f3].getD · 0) ([t0, t1, t2, t3].getD · 0))))), .unset] [(.ref PF), (.int (Int32.ofNat (1 + q)))]
  refine Wp.aload (pc' := 184) at_182 rfl rfl rfl ?_
  refine Wp.iload (pc' := 186) at_184 rfl rfl ?_
  have O14 : Hp h2 n0 [(T, ArC Z k3 .int [(.int (Int32.ofNat t0)), (.int (Int32.ofNat t1)), (.int (Int32.ofNat t2)), (.int (Int32.ofNat t3))]), (PF, ArC Z kpf .int (own_vals ([f0, f1, f2, f3].take k))), (F, ArC Z k1 .int [(.int (Int32.ofNat f0)), (.int (Int32.ofNat f1)), (.int (Int32.ofNat f2)), (.int (Int32.ofNat f3))])] := Hp.front (LA := [_, _]) O2
  refine Wp.callS (yy := (⟨"com/example/frugal_retrieval/frugalretrieval/index/LinkGraphOutDegreePinLaw", "prefix", "([II)[I"⟩ : MethodName)) (pc' := 189) (argsL := [(.ref T), (.int (Int32.ofNat k))]) (S := [(.ref PF), (.int (Int32.ofNat (1 + q)))]) (rm_pre l Z a0 hw T k3 t0 t1 t2 t3 k (by omega) h2 n0 O14) (hw _ (List.mem_of_getElem? (i := 5) rfl)) (hw _ (List.mem_of_getElem? (i := 6) rfl)) (hw _ (List.mem_of_getElem? (i := 3) rfl)) (hw _ (List.mem_of_getElem? (i := 7) rfl)) (by decide) (W := 2) rfl (lenOf pd_6 rfl) rfl rfl (Nat.le_refl 2) (by decide) (by decide) (by decide) (by decide) at_186 rfl ?_
  rintro _ h3 ⟨PT, kpt, rfl, O3⟩
  show Wp _ _ _ _ _ _ _ _ _ _ _ _ 189 #[.val (.int p0), .val (.int p1), .val (.int p2), .val (.int (Int32.ofNat (1 + q))), .val (.int (Int32.ofNat k)), .val (.int (Int32.ofNat d)), .val (.ref F), .val (.ref T), .val (.int (Int32.ofNat ((((own_slot 0 k d ([f0, f1, f2, f3].getD · 0) ([t0, t1, t2, t3].getD · 0)) + (own_slot 1 k d ([f0, f1, f2, f3].getD · 0) ([t0, t1, t2, t3].getD · 0))) + (own_slot 2 k d ([f0, f1, f2, f3].getD · 0) ([t0, t1, t2, t3].getD · 0))) + (own_slot 3 k d ([f0, f1, f2, f3].getD · 0) ([t0, t1, t2, t3].getD · 0))))), .unset] [(.ref PT), (.ref PF), (.int (Int32.ofNat (1 + q)))]
  have O15 : Hp h3 n0 [(PF, ArC Z kpf .int (own_vals ([f0, f1, f2, f3].take k))), (PT, ArC Z kpt .int (own_vals ([t0, t1, t2, t3].take k))), (T, ArC Z k3 .int [(.int (Int32.ofNat t0)), (.int (Int32.ofNat t1)), (.int (Int32.ofNat t2)), (.int (Int32.ofNat t3))]), (F, ArC Z k1 .int [(.int (Int32.ofNat f0)), (.int (Int32.ofNat f1)), (.int (Int32.ofNat f2)), (.int (Int32.ofNat f3))])] := Hp.front (LA := [_, _]) O3
  obtain ⟨c1, c2, c3, c0⟩ := own_facts (n := 1 + q) (k := k) ([t0, t1, t2, t3].take k) (by omega) (by omega) hf0 hf1 hf2 hf3
  refine Wp.callS (yy := (⟨"com/example/frugal_retrieval/frugalretrieval/index/LinkGraph", "of", "(I[I[I)Lcom/example/frugal_retrieval/frugalretrieval/index/LinkGraph;"⟩ : MethodName)) (pc' := 192) (argsL := [(.int (Int32.ofNat (1 + q))), (.ref PF), (.ref PT)]) (S := []) (rm_of l Z a0 hw (1 + q) k PF PT kpf kpt ([f0, f1, f2, f3].take k) ([t0, t1, t2, t3].take k) (by omega) (by omega) (own_takel (by omega)) (own_takel (by omega)) (own_takeb (by omega) hf0 hf1 hf2 hf3) (own_takeb (by omega) ht0 ht1 ht2 ht3) h3 n0 O15 c1 c2 c3 (own_szle _ c0 c3)) (hw _ (List.mem_of_getElem? (i := 8) rfl)) (hw _ (List.mem_of_getElem? (i := 9) rfl)) (hw _ (List.mem_of_getElem? (i := 10) rfl)) (hw _ (List.mem_of_getElem? (i := 11) rfl)) (by decide) (W := 0) rfl (lenOf pd_9 rfl) rfl rfl (Nat.le_refl 0) (by decide) (by decide) (by decide) (by decide) at_189 rfl ?_
  rintro _ h4 ⟨g, s, b, ks, rfl, O4⟩
  show Wp _ _ _ _ _ _ _ _ _ _ _ _ 192 #[.val (.int p0), .val (.int p1), .val (.int p2), .val (.int (Int32.ofNat (1 + q))), .val (.int (Int32.ofNat k)), .val (.int (Int32.ofNat d)), .val (.ref F), .val (.ref T), .val (.int (Int32.ofNat ((((own_slot 0 k d ([f0, f1, f2, f3].getD · 0) ([t0, t1, t2, t3].getD · 0)) + (own_slot 1 k d ([f0, f1, f2, f3].getD · 0) ([t0, t1, t2, t3].getD · 0))) + (own_slot 2 k d ([f0, f1, f2, f3].getD · 0) ([t0, t1, t2, t3].getD · 0))) + (own_slot 3 k d ([f0, f1, f2, f3].getD · 0) ([t0, t1, t2, t3].getD · 0))))), .unset] [(.ref g)]
  refine Wp.astore (L' := #[.val (.int p0), .val (.int p1), .val (.int p2), .val (.int (Int32.ofNat (1 + q))), .val (.int (Int32.ofNat k)), .val (.int (Int32.ofNat d)), .val (.ref F), .val (.ref T), .val (.int (Int32.ofNat ((((own_slot 0 k d ([f0, f1, f2, f3].getD · 0) ([t0, t1, t2, t3].getD · 0)) + (own_slot 1 k d ([f0, f1, f2, f3].getD · 0) ([t0, t1, t2, t3].getD · 0))) + (own_slot 2 k d ([f0, f1, f2, f3].getD · 0) ([t0, t1, t2, t3].getD · 0))) + (own_slot 3 k d ([f0, f1, f2, f3].getD · 0) ([t0, t1, t2, t3].getD · 0))))), .val (.ref g)]) (pc' := 194) at_192 rfl rfl rfl ?_
  refine Wp.aload (pc' := 196) at_194 rfl rfl rfl ?_
  refine Wp.iload (pc' := 198) at_196 rfl rfl ?_
  refine Wp.callV (yy := (⟨"com/example/frugal_retrieval/frugalretrieval/index/LinkGraph", "outDegree", "(I)I"⟩ : MethodName)) (zz := (⟨"com/example/frugal_retrieval/frugalretrieval/index/LinkGraph", "outDegree", "(I)I"⟩ : MethodName)) (pc' := 201) (argsL := [(.int (Int32.ofNat d))]) (a := g) (S := []) (rm_deg l Z a0 hw g s b ks (own_F ([f0, f1, f2, f3].take k) ([t0, t1, t2, t3].take k) (1 + q) (1 + q + 1)) d (own_sz ([f0, f1, f2, f3].take k) ([t0, t1, t2, t3].take k) d) (own_D ([f0, f1, f2, f3].take k) ([t0, t1, t2, t3].take k) d) (by omega) (own_Flo _ _ _ _ d (by omega) (by omega)) (own_Flo _ _ _ _ (d + 1) (by omega) (by omega)) h4 n0 O4) (O4.exa (i := 0) rfl) (hw _ (List.mem_of_getElem? (i := 61) rfl)) (hw _ (List.mem_of_getElem? (i := 62) rfl)) (hw _ (List.mem_of_getElem? (i := 64) rfl)) (hw _ (List.mem_of_getElem? (i := 63) rfl)) (hw _ (List.mem_of_getElem? (i := 10) rfl)) (hw _ (List.mem_of_getElem? (i := 65) rfl)) (nfS (hw _ (List.mem_of_getElem? (i := 64) rfl))) (by decide) (W := 0) rfl (lenOf pd_10 rfl) rfl rfl (Nat.le_refl 0) (by decide) (by decide) (by decide) (by decide) at_198 rfl ?_
  rintro _ _ ⟨rfl, rfl⟩
  show Wp _ _ _ _ _ _ _ _ _ _ _ _ 201 #[.val (.int p0), .val (.int p1), .val (.int p2), .val (.int (Int32.ofNat (1 + q))), .val (.int (Int32.ofNat k)), .val (.int (Int32.ofNat d)), .val (.ref F), .val (.ref T), .val (.int (Int32.ofNat ((((own_slot 0 k d ([f0, f1, f2, f3].getD · 0) ([t0, t1, t2, t3].getD · 0)) + (own_slot 1 k d ([f0, f1, f2, f3].getD · 0) ([t0, t1, t2, t3].getD · 0))) + (own_slot 2 k d ([f0, f1, f2, f3].getD · 0) ([t0, t1, t2, t3].getD · 0))) + (own_slot 3 k d ([f0, f1, f2, f3].getD · 0) ([t0, t1, t2, t3].getD · 0))))), .val (.ref g)] [(.int (Int32.ofNat (own_D ([f0, f1, f2, f3].take k) ([t0, t1, t2, t3].take k) d)))]
  refine Wp.iload (pc' := 203) at_201 rfl rfl ?_
  refine Wp.icmpN (pc' := 206) at_203 (not_not_intro (congrArg Int32.ofNat (own_law (by omega) (by omega) (by omega) (by omega) (by omega)))) rfl ?_
  refine Wp.iconst (z := (1 : Int32)) (pc' := 207) at_206 (by decide) rfl ?_
  refine Wp.goto (pc' := 211) at_207 (by decide) (by decide) ?_
  exact Wp.retS (t := .boolean) rfl (Or.inl rfl) rfl at_211 (by decide) (by decide) rfl

set_option maxRecDepth 65536 in
set_option maxHeartbeats 40000000 in
theorem comes_1 {Post : Tables → Env → Array Value → State → Outcome → State → Prop} (hpost : ∀ tb e args s v u, (limb_1_1.after args s (.returned v) u = true ∧ limb_1_2.after args s (.returned v) u = true ∧ True) → FrameEnd s (.returned v) u (Jvm.fieldLocs frame_1_writes args s ++ Jvm.arrayLocs frame_1_arrays args s ++ Jvm.staticLocs frame_1_statics s) 32 192 → Post tb e args s (.returned v) u) :
    ArmFor flags0 classFile x code maxLocals ret World_1 tables_1 room_1 Calls_1 rest_1 Pre_1 Post := by
  intro l hfl _ _ p e ha hc hk s m args below hf hA hF happ hP
  obtain ⟨hcalls, hrest, hpre⟩ := hP
  obtain ⟨-, -, -, hnamed, -, -, -, hat⟩ := (Spec.applies_iff hf).mp happ
  obtain ⟨hg, hn⟩ := and_e (Cond.before_iff.mp (show (Jvm.Cond.and given_1 narrow_1).before args s = true from hpre))
  obtain ⟨g0, q0⟩ := and_e hg
  obtain ⟨w0, w1, w2, rfl⟩ : ∃ w0 w1 w2 : Value, args = #[w0, w1, w2] := by
    have hs : args.size = 3 := by simpa [Cond.value, given_1] using g0
    obtain ⟨L⟩ := args
    match L, hs with
    | [w0, w1, w2], _ => exact ⟨w0, w1, w2, rfl⟩
  have hw := fun d (hd : d ∈ tables_1) => atoms_spec (ws := Jvm.Cond.code x code maxLocals ret :: tables_1) hat d (List.mem_cons_of_mem _ hd)
  obtain ⟨g1, q1⟩ := and_e q0
  obtain ⟨i0, e0⟩ := is_v g1
  obtain rfl : w0 = (.int i0) := Option.some.inj e0
  obtain ⟨g2, q2⟩ := and_e q1
  obtain ⟨i1, e1⟩ := is_v g2
  obtain rfl : w1 = (.int i1) := Option.some.inj e1
  obtain ⟨i2, e2⟩ := is_v q2
  obtain rfl : w2 = (.int i2) := Option.some.inj e2
  obtain ⟨n, o, h1, h2, h3, v, L, rfl, ⟨hv, N⟩, hq⟩ := (rm0 l s _ hw i0 i1 i2 s.heap s.heap.size (Nat.le_refl _)) tables_1 p e ha hc hk s m _ below hf ((Spec.applies_iff_loose hf).mp happ).1 ⟨rfl, State.Warmed39.refl s, rfl⟩ trivial
  subst hv
  refine ⟨n, _, h1, h2, h3, hpost _ _ _ _ _ _ ⟨Cond.after_iff.mpr rfl, Cond.after_iff.mpr (eq_i res_at (Term.int_eval (1)) rfl), trivial⟩ ⟨hq.1, hq.2.1, (hq.2.2.sift fun y hy => Or.inr (N y hy)).mono (by decide) (by decide)⟩⟩
theorem main_1_1 : Claimed_1_1 := comes_1 fun _ _ _ _ _ _ h hF => ⟨h.1, hF⟩
theorem main_1_2 : Claimed_1_2 := comes_1 fun _ _ _ _ _ _ h hF => ⟨h.2.1, hF⟩

end Jvm.Pilot.@@N@@
namespace Jvm.Pilot.@@N@@
open Jvm Jvm.ClassFile Sem Op Lib Jvm.Free Jvm.Stand Jvm.Pilot.@@N@@.Jvm.D
/-! MADE BY PROGRAM (witnessworld.py) out of the Statement's table words and the real class files: 13 classes; the members and pool entries that the words name. The judged class is class 1, her method 4. -/
namespace start1
open Jvm.ClassFile
def u (s : String) : CpInfo := .utf8 (stringToUtf16 s)
/-- a pool by its gaps: so many unusable entries, then the entry; so many at the end -/
def gap : Nat → List CpInfo → List CpInfo
  | 0, r => r
  | n + 1, r => .unusable :: gap n r
def poolList (es : List (Nat × CpInfo)) (last : Nat) : List CpInfo := es.foldr (fun e r => gap e.1 (e.2 :: r)) (gap last [])
def pool (es : List (Nat × CpInfo)) (last : Nat) : Array CpInfo := ⟨poolList es last⟩
def fileOf (pool : Array CpInfo) (this : Nat) (attrs : Array Attribute := #[]) (ms : Array MethodInfo := #[]) (fl : Nat := 33) (sup : Nat := 0) (ifs : Array Nat := #[]) (fds : Array FieldInfo := #[]) : ClassFile where
  minorVersion := 0
  majorVersion := 65
  constantPool := pool
  accessFlags := fl
  thisClass := this
  superClass := sup
  interfaces := ifs
  fields := fds
  methods := ms
  attributes := attrs
def plain (name : String) (sup : Option ClassId) : Class where
  name := name
  kind := .ordinary
  loader := none
  accessFlags := 33
  super := sup
  interfaces := #[]
  cf := none
  fields := #[]
  methods := #[]
  instanceTypes := #[]
  staticTypes := #[]
  resolved := #[]
  callSites := []
  init := .initialized
  statics := none
  mirror := none

def pool0 : Array CpInfo := pool [(5, u "<init>"), (0, u "()V"), (1, .class_ 10), (1, u "java/lang/Object"), (85, u "clone"), (0, u "()Ljava/lang/Object;")] 26

def k0c0 : Code := { maxStack := 0, maxLocals := 1, code := object_method_1_code, exceptionTable := #[], attributes := #[] }
def k0m0 : Method := { name := "<init>", desc := "()V", sig := { parameters := [], returnType := none }, accessFlags := 1, code := some k0c0 }
def k0m1 : Method := { name := "clone", desc := "()Ljava/lang/Object;", sig := { parameters := [], returnType := some (.object "java/lang/Object") }, accessFlags := 260, code := none }
/-- java/lang/Object -/
def k0 : Class := { plain "java/lang/Object" none with
  accessFlags := 33
  interfaces := #[]
  cf := some (fileOf pool0 8 #[] #[{ accessFlags := 1, nameIndex := 5, descriptorIndex := 6, attributes := #[] }, { accessFlags := 260, nameIndex := 96, descriptorIndex := 97, attributes := #[] }] 33 0 #[] #[])
  fields := #[]
  methods := #[k0m0, k0m1]
  instanceTypes := #[]
  staticTypes := #[]
  resolved := Array.replicate 124 none
  statics := none }

def pool1 : Array CpInfo := pool [(2, .class_ 4), (1, u "java/lang/Object"), (0, u "<init>"), (0, u "()V"), (0, .methodref 8 9), (0, .class_ 10), (0, .nameAndType 11 12), (0, u "com/example/frugal_retrieval/frugalretrieval/index/LinkGraphOutDegreePinLaw"), (0, u "dup"), (0, u "(II[I[I)Z"), (0, .methodref 8 14), (0, .nameAndType 15 16), (0, u "slot"), (0, u "(III[I[I)I"), (0, .methodref 8 18), (0, .nameAndType 19 20), (0, u "prefix"), (0, u "([II)[I"), (0, .methodref 22 23), (0, .class_ 24), (0, .nameAndType 25 26), (0, u "com/example/frugal_retrieval/frugalretrieval/index/LinkGraph"), (0, u "of"), (0, u "(I[I[I)Lcom/example/frugal_retrieval/frugalretrieval/index/LinkGraph;"), (0, .methodref 22 28), (0, .nameAndType 29 30), (0, u "outDegree"), (0, u "(I)I"), (5, u "law"), (0, u "(III)Z")] 2

def k1m0 : Method := { name := "<init>", desc := "()V", sig := { parameters := [], returnType := none }, accessFlags := 2, code := none }
def k1c1 : Code := { maxStack := 3, maxLocals := 4, code := method_2_code, exceptionTable := #[], attributes := #[] }
def k1m1 : Method := { name := "dup", desc := "(II[I[I)Z", sig := { parameters := [.int, .int, (.array .int), (.array .int)], returnType := some .boolean }, accessFlags := 10, code := some k1c1 }
def k1c2 : Code := { maxStack := 4, maxLocals := 5, code := method_3_code, exceptionTable := #[], attributes := #[] }
def k1m2 : Method := { name := "slot", desc := "(III[I[I)I", sig := { parameters := [.int, .int, .int, (.array .int), (.array .int)], returnType := some .int }, accessFlags := 10, code := some k1c2 }
def k1c3 : Code := { maxStack := 4, maxLocals := 3, code := method_4_code, exceptionTable := #[], attributes := #[] }
def k1m3 : Method := { name := "prefix", desc := "([II)[I", sig := { parameters := [(.array .int), .int], returnType := some (.array .int) }, accessFlags := 10, code := some k1c3 }
def k1c4 : Code := { maxStack := 6, maxLocals := 10, code := code, exceptionTable := #[], attributes := #[] }
def k1m4 : Method := { name := "law", desc := "(III)Z", sig := { parameters := [.int, .int, .int], returnType := some .boolean }, accessFlags := 9, code := some k1c4 }
/-- com/example/frugal_retrieval/frugalretrieval/index/LinkGraphOutDegreePinLaw -/
def k1 : Class := { plain "com/example/frugal_retrieval/frugalretrieval/index/LinkGraphOutDegreePinLaw" (some 0) with
  accessFlags := 49
  interfaces := #[]
  cf := some (fileOf pool1 8 #[] #[{ accessFlags := 2, nameIndex := 5, descriptorIndex := 6, attributes := #[] }, { accessFlags := 10, nameIndex := 11, descriptorIndex := 12, attributes := #[] }, { accessFlags := 10, nameIndex := 15, descriptorIndex := 16, attributes := #[] }, { accessFlags := 10, nameIndex := 19, descriptorIndex := 20, attributes := #[] }, { accessFlags := 9, nameIndex := 36, descriptorIndex := 37, attributes := #[] }] 49 2 #[] #[])
  fields := #[]
  methods := #[k1m0, k1m1, k1m2, k1m3, k1m4]
  instanceTypes := #[]
  staticTypes := #[]
  resolved := Array.replicate 40 none
  statics := none }

def pool2 : Array CpInfo := pool [(1, .methodref 2 3), (0, .class_ 4), (0, .nameAndType 5 6), (0, u "java/lang/Object"), (0, u "<init>"), (0, u "()V"), (0, .fieldref 8 9), (0, .class_ 10), (0, .nameAndType 11 12), (0, u "com/example/frugal_retrieval/frugalretrieval/index/LinkGraph"), (0, u "starts"), (0, u "[I"), (0, .fieldref 8 14), (0, .nameAndType 15 12), (0, u "targets"), (15, .methodref 32 33), (0, .class_ 34), (0, .nameAndType 35 36), (0, u "java/util/Arrays"), (0, u "copyOf"), (0, u "([II)[I"), (0, .methodref 32 38), (0, .nameAndType 39 40), (0, u "sort"), (0, u "([III)V"), (0, .methodref 8 42), (0, .nameAndType 5 43), (0, u "([I[I)V"), (28, u "of"), (0, u "(I[I[I)Lcom/example/frugal_retrieval/frugalretrieval/index/LinkGraph;"), (5, u "outDegree"), (0, u "(I)I")] 22

def k2c0 : Code := { maxStack := 2, maxLocals := 3, code := prog_48_method_1_code, exceptionTable := #[], attributes := #[] }
def k2m0 : Method := { name := "<init>", desc := "([I[I)V", sig := { parameters := [(.array .int), (.array .int)], returnType := none }, accessFlags := 0, code := some k2c0 }
def k2c1 : Code := { maxStack := 7, maxLocals := 11, code := prog_48_method_2_code, exceptionTable := #[], attributes := #[] }
def k2m1 : Method := { name := "of", desc := "(I[I[I)Lcom/example/frugal_retrieval/frugalretrieval/index/LinkGraph;", sig := { parameters := [.int, (.array .int), (.array .int)], returnType := some (.object "com/example/frugal_retrieval/frugalretrieval/index/LinkGraph") }, accessFlags := 9, code := some k2c1 }
def k2c2 : Code := { maxStack := 3, maxLocals := 2, code := prog_48_method_6_code, exceptionTable := #[], attributes := #[] }
def k2m2 : Method := { name := "outDegree", desc := "(I)I", sig := { parameters := [.int], returnType := some .int }, accessFlags := 1, code := some k2c2 }
/-- com/example/frugal_retrieval/frugalretrieval/index/LinkGraph -/
def k2 : Class := { plain "com/example/frugal_retrieval/frugalretrieval/index/LinkGraph" (some 0) with
  accessFlags := 49
  interfaces := #[]
  cf := some (fileOf pool2 8 #[] #[{ accessFlags := 0, nameIndex := 5, descriptorIndex := 43, attributes := #[] }, { accessFlags := 9, nameIndex := 72, descriptorIndex := 73, attributes := #[] }, { accessFlags := 1, nameIndex := 79, descriptorIndex := 80, attributes := #[] }] 49 2 #[] #[{ accessFlags := 18, nameIndex := 11, descriptorIndex := 12, attributes := #[] }, { accessFlags := 18, nameIndex := 15, descriptorIndex := 12, attributes := #[] }])
  fields := #[{ name := "starts", type := (.array .int), accessFlags := 18, slot := 0, constantValue := 0 }, { name := "targets", type := (.array .int), accessFlags := 18, slot := 1, constantValue := 0 }]
  methods := #[k2m0, k2m1, k2m2]
  instanceTypes := #[(.array .int), (.array .int)]
  staticTypes := #[]
  resolved := Array.replicate 103 none
  statics := none }

def pool3 : Array CpInfo := pool [(2, .class_ 4), (1, u "java/lang/Object"), (0, u "<init>"), (0, u "()V"), (0, .methodref 8 9), (0, .class_ 10), (0, .nameAndType 11 12), (0, u "java/util/DualPivotQuicksort"), (0, u "sort"), (0, u "([IIII)V"), (0, .methodref 14 15), (0, .class_ 16), (0, .nameAndType 17 18), (0, u "java/util/Arrays"), (0, u "rangeCheck"), (0, u "(III)V"), (55, .class_ 76), (1, u "java/util/Arrays$NaturalOrder"), (32, u "()Ljava/lang/Object;"), (3, .class_ 115), (1, u "java/util/Arrays$LegacyMergeSort"), (1, u "Z"), (10, .nameAndType 129 109), (0, u "clone"), (20, .methodref 151 152), (0, .class_ 153), (0, .nameAndType 154 155), (0, u "java/lang/System"), (0, u "arraycopy"), (0, u "(Ljava/lang/Object;ILjava/lang/Object;II)V"), (146, u "copyOf"), (1, .methodref 305 306), (0, .class_ 307), (0, .nameAndType 308 309), (0, u "java/lang/Math"), (0, u "min"), (0, u "(II)I"), (6, .methodref 317 128), (0, .class_ 318), (0, u "[I"), (56, .class_ 376), (0, u "java/util/Arrays$ArrayList"), (68, u "$assertionsDisabled"), (269, u "MIN_ARRAY_SORT_GRAN"), (0, u "I"), (2, u "INSERTIONSORT_THRESHOLD"), (8, u "([III)V"), (142, u "([II)[I"), (103, .class_ 976), (0, u "java/util/Arrays$ArrayItr")] 52

def k3m0 : Method := { name := "<init>", desc := "()V", sig := { parameters := [], returnType := none }, accessFlags := 2, code := none }
def k3c1 : Code := { maxStack := 4, maxLocals := 3, code := jdk_65_method_3_code, exceptionTable := #[], attributes := #[] }
def k3m1 : Method := { name := "sort", desc := "([III)V", sig := { parameters := [(.array .int), .int, .int], returnType := none }, accessFlags := 9, code := some k3c1 }
def k3c2 : Code := { maxStack := 4, maxLocals := 3, code := jdk_65_method_30_code, exceptionTable := #[], attributes := #[] }
def k3m2 : Method := { name := "rangeCheck", desc := "(III)V", sig := { parameters := [.int, .int, .int], returnType := none }, accessFlags := 8, code := some k3c2 }
def k3c3 : Code := { maxStack := 6, maxLocals := 3, code := jdk_65_method_123_code, exceptionTable := #[], attributes := #[] }
def k3m3 : Method := { name := "copyOf", desc := "([II)[I", sig := { parameters := [(.array .int), .int], returnType := some (.array .int) }, accessFlags := 9, code := some k3c3 }
/-- java/util/Arrays -/
def k3 : Class := { plain "java/util/Arrays" (some 0) with
  accessFlags := 49
  interfaces := #[]
  cf := some (fileOf pool3 14 #[.nestMembers #[975, 375, 113, 74]] #[{ accessFlags := 2, nameIndex := 5, descriptorIndex := 6, attributes := #[] }, { accessFlags := 9, nameIndex := 11, descriptorIndex := 728, attributes := #[] }, { accessFlags := 8, nameIndex := 17, descriptorIndex := 18, attributes := #[] }, { accessFlags := 9, nameIndex := 302, descriptorIndex := 871, attributes := #[] }] 49 2 #[] #[{ accessFlags := 26, nameIndex := 715, descriptorIndex := 716, attributes := #[] }, { accessFlags := 26, nameIndex := 719, descriptorIndex := 716, attributes := #[] }, { accessFlags := 4120, nameIndex := 445, descriptorIndex := 117, attributes := #[] }])
  fields := #[{ name := "MIN_ARRAY_SORT_GRAN", type := .int, accessFlags := 26, slot := 0, constantValue := 0 }, { name := "INSERTIONSORT_THRESHOLD", type := .int, accessFlags := 26, slot := 1, constantValue := 0 }, { name := "$assertionsDisabled", type := .boolean, accessFlags := 4120, slot := 2, constantValue := 0 }]
  methods := #[k3m0, k3m1, k3m2, k3m3]
  instanceTypes := #[]
  staticTypes := #[.int, .int, .boolean]
  resolved := Array.replicate 1029 none
  statics := none }

def pool4 : Array CpInfo := pool [(1, .class_ 2), (0, u "java/lang/Math"), (1, .class_ 6), (1, u "java/lang/Object"), (0, u "<init>"), (0, u "()V"), (89, .class_ 100), (1, u "java/lang/Math$RandomNumberGeneratorHolder"), (71, u "negativeZeroFloatBits"), (0, u "J"), (2, u "negativeZeroDoubleBits"), (24, u "min"), (43, u "$assertionsDisabled"), (0, u "Z"), (88, u "(II)I"), (2, u "twoToTheDoubleScaleDown"), (0, u "D"), (4, u "twoToTheDoubleScaleUp"), (9, u "E"), (3, u "PI"), (2, u "TAU"), (2, u "DEGREES_TO_RADIANS"), (0, u "RADIANS_TO_DEGREES")] 94

def k4m0 : Method := { name := "<init>", desc := "()V", sig := { parameters := [], returnType := none }, accessFlags := 2, code := none }
def k4c1 : Code := { maxStack := 2, maxLocals := 2, code := jdk_29_method_69_code, exceptionTable := #[], attributes := #[] }
def k4m1 : Method := { name := "min", desc := "(II)I", sig := { parameters := [.int, .int], returnType := some .int }, accessFlags := 9, code := some k4c1 }
/-- java/lang/Math -/
def k4 : Class := { plain "java/lang/Math" (some 0) with
  accessFlags := 49
  interfaces := #[]
  cf := some (fileOf pool4 1 #[.nestMembers #[98]] #[{ accessFlags := 2, nameIndex := 7, descriptorIndex := 8, attributes := #[] }, { accessFlags := 9, nameIndex := 201, descriptorIndex := 335, attributes := #[] }] 49 4 #[] #[{ accessFlags := 25, nameIndex := 354, descriptorIndex := 339, attributes := #[] }, { accessFlags := 25, nameIndex := 358, descriptorIndex := 339, attributes := #[] }, { accessFlags := 25, nameIndex := 361, descriptorIndex := 339, attributes := #[] }, { accessFlags := 26, nameIndex := 364, descriptorIndex := 339, attributes := #[] }, { accessFlags := 26, nameIndex := 365, descriptorIndex := 339, attributes := #[] }, { accessFlags := 26, nameIndex := 172, descriptorIndex := 173, attributes := #[] }, { accessFlags := 26, nameIndex := 176, descriptorIndex := 173, attributes := #[] }, { accessFlags := 8, nameIndex := 344, descriptorIndex := 339, attributes := #[] }, { accessFlags := 8, nameIndex := 338, descriptorIndex := 339, attributes := #[] }, { accessFlags := 4120, nameIndex := 245, descriptorIndex := 246, attributes := #[] }])
  fields := #[{ name := "E", type := .double, accessFlags := 25, slot := 0, constantValue := 0 }, { name := "PI", type := .double, accessFlags := 25, slot := 1, constantValue := 0 }, { name := "TAU", type := .double, accessFlags := 25, slot := 2, constantValue := 0 }, { name := "DEGREES_TO_RADIANS", type := .double, accessFlags := 26, slot := 3, constantValue := 0 }, { name := "RADIANS_TO_DEGREES", type := .double, accessFlags := 26, slot := 4, constantValue := 0 }, { name := "negativeZeroFloatBits", type := .long, accessFlags := 26, slot := 5, constantValue := 0 }, { name := "negativeZeroDoubleBits", type := .long, accessFlags := 26, slot := 6, constantValue := 0 }, { name := "twoToTheDoubleScaleUp", type := .double, accessFlags := 8, slot := 7, constantValue := 0 }, { name := "twoToTheDoubleScaleDown", type := .double, accessFlags := 8, slot := 8, constantValue := 0 }, { name := "$assertionsDisabled", type := .boolean, accessFlags := 4120, slot := 9, constantValue := 0 }]
  methods := #[k4m0, k4m1]
  instanceTypes := #[]
  staticTypes := #[.double, .double, .double, .double, .double, .long, .long, .double, .double, .boolean]
  resolved := Array.replicate 460 none
  statics := none }

def pool5 : Array CpInfo := pool [(2, .class_ 4), (1, u "java/lang/Object"), (0, u "<init>"), (0, u "()V"), (1, .class_ 10), (1, u "java/lang/System"), (0, u "allowSecurityManager"), (0, u "I"), (16, u "cons"), (0, u "Ljava/io/Console;"), (77, .class_ 110), (1, u "java/lang/System$CallersHolder"), (43, u "initialErrStream"), (0, u "Ljava/io/PrintStream;"), (19, u "security"), (0, u "Ljava/lang/SecurityManager;"), (31, .class_ 209), (0, u "java/lang/System$1"), (7, u "props"), (0, u "Ljava/util/Properties;"), (2, u "lineSeparator"), (0, u "Ljava/lang/String;"), (96, .class_ 321), (1, u "java/lang/System$LoggerFinder"), (5, .class_ 328), (0, u "java/lang/System$Logger"), (67, u "err"), (2, u "out"), (91, u "notSupportedJnuEncoding"), (15, u "in"), (17, u "initialIn"), (0, u "Ljava/io/InputStream;"), (35, u "bootLayer"), (0, u "Ljava/lang/ModuleLayer;"), (99, .class_ 664), (0, u "java/lang/System$2"), (9, u "NEVER"), (2, u "MAYBE"), (49, u "arraycopy"), (0, u "(Ljava/lang/Object;ILjava/lang/Object;II)V"), (72, .class_ 802), (0, u "java/lang/System$Logger$Level")] 31

def k5m0 : Method := { name := "<init>", desc := "()V", sig := { parameters := [], returnType := none }, accessFlags := 2, code := none }
def k5m1 : Method := { name := "arraycopy", desc := "(Ljava/lang/Object;ILjava/lang/Object;II)V", sig := { parameters := [(.object "java/lang/Object"), .int, (.object "java/lang/Object"), .int, .int], returnType := none }, accessFlags := 265, code := none }
/-- java/lang/System -/
def k5 : Class := { plain "java/lang/System" (some 0) with
  accessFlags := 49
  interfaces := #[]
  cf := some (fileOf pool5 8 #[.nestMembers #[319, 327, 801, 108, 663, 208]] #[{ accessFlags := 2, nameIndex := 5, descriptorIndex := 6, attributes := #[] }, { accessFlags := 265, nameIndex := 727, descriptorIndex := 728, attributes := #[] }] 49 2 #[] #[{ accessFlags := 25, nameIndex := 507, descriptorIndex := 526, attributes := #[] }, { accessFlags := 25, nameIndex := 399, descriptorIndex := 155, attributes := #[] }, { accessFlags := 25, nameIndex := 396, descriptorIndex := 155, attributes := #[] }, { accessFlags := 10, nameIndex := 525, descriptorIndex := 526, attributes := #[] }, { accessFlags := 26, nameIndex := 674, descriptorIndex := 12, attributes := #[] }, { accessFlags := 26, nameIndex := 677, descriptorIndex := 12, attributes := #[] }, { accessFlags := 10, nameIndex := 11, descriptorIndex := 12, attributes := #[] }, { accessFlags := 74, nameIndex := 175, descriptorIndex := 176, attributes := #[] }, { accessFlags := 10, nameIndex := 491, descriptorIndex := 222, attributes := #[] }, { accessFlags := 74, nameIndex := 29, descriptorIndex := 30, attributes := #[] }, { accessFlags := 74, nameIndex := 154, descriptorIndex := 155, attributes := #[] }, { accessFlags := 10, nameIndex := 217, descriptorIndex := 218, attributes := #[] }, { accessFlags := 10, nameIndex := 221, descriptorIndex := 222, attributes := #[] }, { accessFlags := 8, nameIndex := 562, descriptorIndex := 563, attributes := #[] }])
  fields := #[{ name := "in", type := (.object "java/io/InputStream"), accessFlags := 25, slot := 0, constantValue := 0 }, { name := "out", type := (.object "java/io/PrintStream"), accessFlags := 25, slot := 1, constantValue := 0 }, { name := "err", type := (.object "java/io/PrintStream"), accessFlags := 25, slot := 2, constantValue := 0 }, { name := "initialIn", type := (.object "java/io/InputStream"), accessFlags := 10, slot := 3, constantValue := 0 }, { name := "NEVER", type := .int, accessFlags := 26, slot := 4, constantValue := 0 }, { name := "MAYBE", type := .int, accessFlags := 26, slot := 5, constantValue := 0 }, { name := "allowSecurityManager", type := .int, accessFlags := 10, slot := 6, constantValue := 0 }, { name := "security", type := (.object "java/lang/SecurityManager"), accessFlags := 74, slot := 7, constantValue := 0 }, { name := "notSupportedJnuEncoding", type := (.object "java/lang/String"), accessFlags := 10, slot := 8, constantValue := 0 }, { name := "cons", type := (.object "java/io/Console"), accessFlags := 74, slot := 9, constantValue := 0 }, { name := "initialErrStream", type := (.object "java/io/PrintStream"), accessFlags := 74, slot := 10, constantValue := 0 }, { name := "props", type := (.object "java/util/Properties"), accessFlags := 10, slot := 11, constantValue := 0 }, { name := "lineSeparator", type := (.object "java/lang/String"), accessFlags := 10, slot := 12, constantValue := 0 }, { name := "bootLayer", type := (.object "java/lang/ModuleLayer"), accessFlags := 8, slot := 13, constantValue := 0 }]
  methods := #[k5m0, k5m1]
  instanceTypes := #[]
  staticTypes := #[(.object "java/io/InputStream"), (.object "java/io/PrintStream"), (.object "java/io/PrintStream"), (.object "java/io/InputStream"), .int, .int, .int, (.object "java/lang/SecurityManager"), (.object "java/lang/String"), (.object "java/io/Console"), (.object "java/io/PrintStream"), (.object "java/util/Properties"), (.object "java/lang/String"), (.object "java/lang/ModuleLayer")]
  resolved := Array.replicate 834 none
  statics := none }

def pool6 : Array CpInfo := pool [(1, .class_ 2), (0, u "java/util/DualPivotQuicksort"), (5, .class_ 10), (1, u "java/lang/Object"), (0, u "<init>"), (0, u "()V"), (4, .class_ 18), (0, u "java/util/DualPivotQuicksort$Sorter"), (7, .methodref 1 27), (0, .nameAndType 28 29), (0, u "sort"), (0, u "(Ljava/util/DualPivotQuicksort$Sorter;[IIII)V"), (3, u "([IIII)V"), (0, .methodref 1 35), (0, .nameAndType 36 37), (0, u "insertionSort"), (0, u "([III)V"), (30, u "I"), (4, .class_ 74), (0, u "java/util/DualPivotQuicksort$RunMerger"), (10, .class_ 86), (0, u "java/util/DualPivotQuicksort$Merger"), (127, u "MAX_MIXED_INSERTION_SORT_SIZE"), (2, u "MAX_INSERTION_SORT_SIZE"), (1, u "MIN_PARALLEL_SORT_SIZE"), (1, u "MIN_TRY_MERGE_SIZE"), (0, u "MIN_FIRST_RUN_SIZE"), (1, u "MIN_FIRST_RUNS_FACTOR"), (1, u "MAX_RUN_CAPACITY"), (1, u "MIN_RUN_COUNT"), (1, u "MIN_PARALLEL_MERGE_PARTS_SIZE"), (0, u "MIN_BYTE_COUNTING_SORT_SIZE"), (1, u "MIN_SHORT_OR_CHAR_COUNTING_SORT_SIZE"), (1, u "DELTA"), (1, u "MAX_RECURSION_DEPTH"), (1, u "NUM_BYTE_VALUES"), (1, u "MAX_BYTE_INDEX"), (0, u "NUM_CHAR_VALUES"), (0, u "NUM_SHORT_VALUES"), (0, u "MAX_SHORT_INDEX")] 86

def k6m0 : Method := { name := "<init>", desc := "()V", sig := { parameters := [], returnType := none }, accessFlags := 2, code := none }
def k6c1 : Code := { maxStack := 9, maxLocals := 7, code := jdk_2529_method_3_code, exceptionTable := #[], attributes := #[] }
def k6m1 : Method := { name := "sort", desc := "([IIII)V", sig := { parameters := [(.array .int), .int, .int, .int], returnType := none }, accessFlags := 8, code := some k6c1 }
def k6c2 : Code := { maxStack := 6, maxLocals := 21, code := jdk_2529_method_4_code, exceptionTable := #[], attributes := #[] }
def k6m2 : Method := { name := "sort", desc := "(Ljava/util/DualPivotQuicksort$Sorter;[IIII)V", sig := { parameters := [(.object "java/util/DualPivotQuicksort$Sorter"), (.array .int), .int, .int, .int], returnType := none }, accessFlags := 8, code := some k6c2 }
def k6c3 : Code := { maxStack := 4, maxLocals := 6, code := jdk_2529_method_6_code, exceptionTable := #[], attributes := #[] }
def k6m3 : Method := { name := "insertionSort", desc := "([III)V", sig := { parameters := [(.array .int), .int, .int], returnType := none }, accessFlags := 10, code := some k6c3 }
/-- java/util/DualPivotQuicksort -/
def k6 : Class := { plain "java/util/DualPivotQuicksort" (some 0) with
  accessFlags := 48
  interfaces := #[]
  cf := some (fileOf pool6 1 #[.nestMembers #[73, 85, 17]] #[{ accessFlags := 2, nameIndex := 11, descriptorIndex := 12, attributes := #[] }, { accessFlags := 8, nameIndex := 28, descriptorIndex := 33, attributes := #[] }, { accessFlags := 8, nameIndex := 28, descriptorIndex := 29, attributes := #[] }, { accessFlags := 10, nameIndex := 36, descriptorIndex := 37, attributes := #[] }] 48 8 #[] #[{ accessFlags := 26, nameIndex := 214, descriptorIndex := 68, attributes := #[] }, { accessFlags := 26, nameIndex := 217, descriptorIndex := 68, attributes := #[] }, { accessFlags := 26, nameIndex := 219, descriptorIndex := 68, attributes := #[] }, { accessFlags := 26, nameIndex := 221, descriptorIndex := 68, attributes := #[] }, { accessFlags := 26, nameIndex := 222, descriptorIndex := 68, attributes := #[] }, { accessFlags := 26, nameIndex := 224, descriptorIndex := 68, attributes := #[] }, { accessFlags := 26, nameIndex := 226, descriptorIndex := 68, attributes := #[] }, { accessFlags := 26, nameIndex := 228, descriptorIndex := 68, attributes := #[] }, { accessFlags := 26, nameIndex := 230, descriptorIndex := 68, attributes := #[] }, { accessFlags := 26, nameIndex := 231, descriptorIndex := 68, attributes := #[] }, { accessFlags := 26, nameIndex := 233, descriptorIndex := 68, attributes := #[] }, { accessFlags := 26, nameIndex := 235, descriptorIndex := 68, attributes := #[] }, { accessFlags := 26, nameIndex := 237, descriptorIndex := 68, attributes := #[] }, { accessFlags := 26, nameIndex := 239, descriptorIndex := 68, attributes := #[] }, { accessFlags := 26, nameIndex := 241, descriptorIndex := 68, attributes := #[] }, { accessFlags := 26, nameIndex := 242, descriptorIndex := 68, attributes := #[] }, { accessFlags := 26, nameIndex := 243, descriptorIndex := 68, attributes := #[] }, { accessFlags := 26, nameIndex := 244, descriptorIndex := 68, attributes := #[] }])
  fields := #[{ name := "MAX_MIXED_INSERTION_SORT_SIZE", type := .int, accessFlags := 26, slot := 0, constantValue := 0 }, { name := "MAX_INSERTION_SORT_SIZE", type := .int, accessFlags := 26, slot := 1, constantValue := 0 }, { name := "MIN_PARALLEL_SORT_SIZE", type := .int, accessFlags := 26, slot := 2, constantValue := 0 }, { name := "MIN_TRY_MERGE_SIZE", type := .int, accessFlags := 26, slot := 3, constantValue := 0 }, { name := "MIN_FIRST_RUN_SIZE", type := .int, accessFlags := 26, slot := 4, constantValue := 0 }, { name := "MIN_FIRST_RUNS_FACTOR", type := .int, accessFlags := 26, slot := 5, constantValue := 0 }, { name := "MAX_RUN_CAPACITY", type := .int, accessFlags := 26, slot := 6, constantValue := 0 }, { name := "MIN_RUN_COUNT", type := .int, accessFlags := 26, slot := 7, constantValue := 0 }, { name := "MIN_PARALLEL_MERGE_PARTS_SIZE", type := .int, accessFlags := 26, slot := 8, constantValue := 0 }, { name := "MIN_BYTE_COUNTING_SORT_SIZE", type := .int, accessFlags := 26, slot := 9, constantValue := 0 }, { name := "MIN_SHORT_OR_CHAR_COUNTING_SORT_SIZE", type := .int, accessFlags := 26, slot := 10, constantValue := 0 }, { name := "DELTA", type := .int, accessFlags := 26, slot := 11, constantValue := 0 }, { name := "MAX_RECURSION_DEPTH", type := .int, accessFlags := 26, slot := 12, constantValue := 0 }, { name := "NUM_BYTE_VALUES", type := .int, accessFlags := 26, slot := 13, constantValue := 0 }, { name := "MAX_BYTE_INDEX", type := .int, accessFlags := 26, slot := 14, constantValue := 0 }, { name := "NUM_CHAR_VALUES", type := .int, accessFlags := 26, slot := 15, constantValue := 0 }, { name := "NUM_SHORT_VALUES", type := .int, accessFlags := 26, slot := 16, constantValue := 0 }, { name := "MAX_SHORT_INDEX", type := .int, accessFlags := 26, slot := 17, constantValue := 0 }]
  methods := #[k6m0, k6m1, k6m2, k6m3]
  instanceTypes := #[]
  staticTypes := #[.int, .int, .int, .int, .int, .int, .int, .int, .int, .int, .int, .int, .int, .int, .int, .int, .int, .int]
  resolved := Array.replicate 331 none
  statics := none }

def pool7 : Array CpInfo := pool [(1, .class_ 2), (0, u "java/lang/Cloneable"), (0, .class_ 4), (0, u "java/lang/Object")] 2

/-- java/lang/Cloneable -/
def k7 : Class := { plain "java/lang/Cloneable" (some 0) with
  accessFlags := 1537
  interfaces := #[]
  cf := some (fileOf pool7 1 #[] #[] 1537 3 #[] #[])
  fields := #[]
  methods := #[]
  instanceTypes := #[]
  staticTypes := #[]
  resolved := Array.replicate 7 none
  statics := none }

def pool8 : Array CpInfo := pool [(1, u "java/io/Serializable"), (0, .class_ 1), (0, u "java/lang/Object"), (0, .class_ 3)] 3

/-- java/io/Serializable -/
def k8 : Class := { plain "java/io/Serializable" (some 0) with
  accessFlags := 1537
  interfaces := #[]
  cf := some (fileOf pool8 2 #[] #[] 1537 4 #[] #[])
  fields := #[]
  methods := #[]
  instanceTypes := #[]
  staticTypes := #[]
  resolved := Array.replicate 8 none
  statics := none }

/-- the primitive byte -/
def k9 : Class := { plain "byte" none with kind := .primitive 'B', accessFlags := 0x411 }
/-- [B -/
def k10 : Class := { plain "[B" (some 0) with kind := .array 9 .byte, interfaces := #[7, 8], accessFlags := 1041 }

/-- the primitive int -/
def k11 : Class := { plain "int" none with kind := .primitive 'I', accessFlags := 0x411 }
/-- [I -/
def k12 : Class := { plain "[I" (some 0) with kind := .array 11 .int, interfaces := #[7, 8], accessFlags := 1041 }

def heap : Heap := #[]
def classes : Array Class := #[k0, k1, k2, k3, k4, k5, k6, k7, k8, k9, k10, k11, k12]
def interned : List (Array UInt16 × Addr) := []
def slotsUsed : Nat := 0
def theMethod : MethodId := ⟨1, 4⟩
def args0 : Array Value := #[.int 5, .int 300, .int 7]
def aboutOver (below : List Frame) : State where
  vm := { classes := classes, interned := interned.toArray }
  heap := heap
  slotsUsed := slotsUsed
  threads := #[{ frames := .invoking theMethod args0 :: below }]
def below0 : List Frame := [.native { method := ⟨0, 0⟩, args := #[] }]
def about1 : State := aboutOver below0
def p0 : Program := .bare "" "" ""
def e0 : Env := launch0.env 0 0 0
theorem w_frames : about1.frames = Frame.invoking theMethod args0 :: below0 := rfl
set_option maxRecDepth 65536 in
theorem w_args : argsFit about1.vm theMethod args0 = true := by decide +kernel
set_option maxRecDepth 65536 in
theorem w_heap : heapFits about1 = true := by decide +kernel
set_option maxRecDepth 65536 in
theorem w_runnable : about1.curStatus? = some .runnable := by decide +kernel
set_option maxRecDepth 65536 in
theorem w_alone : about1.alone = true := by decide +kernel
set_option maxRecDepth 65536 in
theorem w_named : about1.methodNamed? x = some theMethod := by decide +kernel
set_option maxRecDepth 65536 in
theorem w_hears : about1.hears theMethod below0 = true := by decide +kernel
set_option maxRecDepth 65536 in
theorem w_ripe : about1.ripe theMethod args0 below0 = true := by decide +kernel
theorem w_running : about1.status = .running := rfl
set_option maxRecDepth 65536 in
theorem w_room : about1.hasRoom e0.platform room_1 = true :=
  launch0.hasRoom_least _ room_1 (by decide +kernel) (by decide +kernel) (by decide +kernel) (by decide +kernel) (by decide +kernel) (by decide +kernel)
theorem allAtoms_all (ts : List Jvm.Cond) (a : Array Jvm.Value) (st : Jvm.State) : (allAtoms ts).before a st = ts.all (fun c => c.before a st) := by
  induction ts with
  | nil => rfl
  | cons c t ih =>
    show (Jvm.Cond.and c (allAtoms t)).before a st = _
    rw [Jvm.Cond.before_and, ih, List.all_cons]
def words1 : List Jvm.Cond := Jvm.Cond.code x code maxLocals ret :: tables_1
/-- a 'code' word, met by the world's own term for the bytes: nothing is compared byte by byte -/
theorem code_word {y : MethodName} {bytes : ByteArray} {mx : Nat} {rt : Option FieldType} {a : Array Value} {s : State} {m : MethodId} {meth : Method} {c : Code} (h1 : s.methodNamed? y = some m) (h2 : s.vm.method? m = some meth) (h3 : meth.code = some c) (h4 : c.code = bytes)
    (h5 : (c.maxLocals == mx && c.exceptionTable.isEmpty && decide (c.maxStack ≤ mostOperands) && decide (meth.sig.returnType = rt) && !meth.locks && decide (parseMethodDescriptor y.desc = some meth.sig)) = true) : (Jvm.Cond.code y bytes mx rt).before a s = true := by
  simp only [Bool.and_eq_true, beq_iff_eq, Bool.not_eq_true', decide_eq_true_eq] at h5
  obtain ⟨⟨⟨⟨⟨g1, g2⟩, g3⟩, g4⟩, g5⟩, g6⟩ := h5
  simp [Cond.before, Cond.holds, Cond.value, h1, h2, h3, h4, g1, g2, g3, g4, g5, g6]
def isCode : Jvm.Cond → Bool
  | .code _ _ _ _ => true
  | _ => false
theorem all_split {L : List Jvm.Cond} {P : Jvm.Cond → Bool} (h1 : L.all (fun c => isCode c || P c) = true) (h2 : ∀ c ∈ L.filter isCode, P c = true) : L.all P = true := by
  refine List.all_eq_true.mpr fun c hc => ?_
  have h := List.all_eq_true.mp h1 c hc
  rcases Bool.eq_false_or_eq_true (isCode c) with hi | hi
  · exact h2 c (List.mem_filter.mpr ⟨hc, hi⟩)
  · simpa [hi] using h
set_option maxRecDepth 65536 in
theorem w_c0 : (Jvm.Cond.code x code maxLocals ret).before args0 about1 = true := code_word (m := ⟨1, 4⟩) (meth := k1m4) (c := k1c4) (by decide +kernel) rfl rfl rfl (by decide +kernel)
set_option maxRecDepth 65536 in
theorem w_c1 : (Jvm.Cond.code ({ cls := "com/example/frugal_retrieval/frugalretrieval/index/LinkGraphOutDegreePinLaw", name := "slot", desc := "(III[I[I)I" } : Jvm.MethodName) method_3_code (5 : Nat) (Option.some Jvm.ClassFile.FieldType.int)).before args0 about1 = true := code_word (m := ⟨1, 2⟩) (meth := k1m2) (c := k1c2) (by decide +kernel) rfl rfl rfl (by decide +kernel)
set_option maxRecDepth 65536 in
theorem w_c2 : (Jvm.Cond.code ({ cls := "com/example/frugal_retrieval/frugalretrieval/index/LinkGraphOutDegreePinLaw", name := "prefix", desc := "([II)[I" } : Jvm.MethodName) method_4_code (3 : Nat) (Option.some (Jvm.ClassFile.FieldType.array Jvm.ClassFile.FieldType.int))).before args0 about1 = true := code_word (m := ⟨1, 3⟩) (meth := k1m3) (c := k1c3) (by decide +kernel) rfl rfl rfl (by decide +kernel)
set_option maxRecDepth 65536 in
theorem w_c3 : (Jvm.Cond.code ({ cls := "com/example/frugal_retrieval/frugalretrieval/index/LinkGraph", name := "of", desc := "(I[I[I)Lcom/example/frugal_retrieval/frugalretrieval/index/LinkGraph;" } : Jvm.MethodName) prog_48_method_2_code (11 : Nat) (Option.some (Jvm.ClassFile.FieldType.object "com/example/frugal_retrieval/frugalretrieval/index/LinkGraph"))).before args0 about1 = true := code_word (m := ⟨2, 1⟩) (meth := k2m1) (c := k2c1) (by decide +kernel) rfl rfl rfl (by decide +kernel)
set_option maxRecDepth 65536 in
theorem w_c4 : (Jvm.Cond.code ({ cls := "java/util/Arrays", name := "copyOf", desc := "([II)[I" } : Jvm.MethodName) jdk_65_method_123_code (3 : Nat) (Option.some (Jvm.ClassFile.FieldType.array Jvm.ClassFile.FieldType.int))).before args0 about1 = true := code_word (m := ⟨3, 3⟩) (meth := k3m3) (c := k3c3) (by decide +kernel) rfl rfl rfl (by decide +kernel)
set_option maxRecDepth 65536 in
theorem w_c5 : (Jvm.Cond.code ({ cls := "java/lang/Math", name := "min", desc := "(II)I" } : Jvm.MethodName) jdk_29_method_69_code (2 : Nat) (Option.some Jvm.ClassFile.FieldType.int)).before args0 about1 = true := code_word (m := ⟨4, 1⟩) (meth := k4m1) (c := k4c1) (by decide +kernel) rfl rfl rfl (by decide +kernel)
set_option maxRecDepth 65536 in
theorem w_c6 : (Jvm.Cond.code ({ cls := "java/util/Arrays", name := "sort", desc := "([III)V" } : Jvm.MethodName) jdk_65_method_3_code (3 : Nat) (Option.none : Option Jvm.ClassFile.FieldType)).before args0 about1 = true := code_word (m := ⟨3, 1⟩) (meth := k3m1) (c := k3c1) (by decide +kernel) rfl rfl rfl (by decide +kernel)
set_option maxRecDepth 65536 in
theorem w_c7 : (Jvm.Cond.code ({ cls := "java/util/Arrays", name := "rangeCheck", desc := "(III)V" } : Jvm.MethodName) jdk_65_method_30_code (3 : Nat) (Option.none : Option Jvm.ClassFile.FieldType)).before args0 about1 = true := code_word (m := ⟨3, 2⟩) (meth := k3m2) (c := k3c2) (by decide +kernel) rfl rfl rfl (by decide +kernel)
set_option maxRecDepth 65536 in
theorem w_c8 : (Jvm.Cond.code ({ cls := "java/util/DualPivotQuicksort", name := "sort", desc := "([IIII)V" } : Jvm.MethodName) jdk_2529_method_3_code (7 : Nat) (Option.none : Option Jvm.ClassFile.FieldType)).before args0 about1 = true := code_word (m := ⟨6, 1⟩) (meth := k6m1) (c := k6c1) (by decide +kernel) rfl rfl rfl (by decide +kernel)
set_option maxRecDepth 65536 in
theorem w_c9 : (Jvm.Cond.code ({ cls := "java/util/DualPivotQuicksort", name := "sort", desc := "(Ljava/util/DualPivotQuicksort$Sorter;[IIII)V" } : Jvm.MethodName) jdk_2529_method_4_code (21 : Nat) (Option.none : Option Jvm.ClassFile.FieldType)).before args0 about1 = true := code_word (m := ⟨6, 2⟩) (meth := k6m2) (c := k6c2) (by decide +kernel) rfl rfl rfl (by decide +kernel)
set_option maxRecDepth 65536 in
theorem w_c10 : (Jvm.Cond.code ({ cls := "java/util/DualPivotQuicksort", name := "insertionSort", desc := "([III)V" } : Jvm.MethodName) jdk_2529_method_6_code (6 : Nat) (Option.none : Option Jvm.ClassFile.FieldType)).before args0 about1 = true := code_word (m := ⟨6, 3⟩) (meth := k6m3) (c := k6c3) (by decide +kernel) rfl rfl rfl (by decide +kernel)
set_option maxRecDepth 65536 in
theorem w_c11 : (Jvm.Cond.code ({ cls := "com/example/frugal_retrieval/frugalretrieval/index/LinkGraph", name := "<init>", desc := "([I[I)V" } : Jvm.MethodName) prog_48_method_1_code (3 : Nat) (Option.none : Option Jvm.ClassFile.FieldType)).before args0 about1 = true := code_word (m := ⟨2, 0⟩) (meth := k2m0) (c := k2c0) (by decide +kernel) rfl rfl rfl (by decide +kernel)
set_option maxRecDepth 65536 in
theorem w_c12 : (Jvm.Cond.code ({ cls := "java/lang/Object", name := "<init>", desc := "()V" } : Jvm.MethodName) object_method_1_code (1 : Nat) (Option.none : Option Jvm.ClassFile.FieldType)).before args0 about1 = true := code_word (m := ⟨0, 0⟩) (meth := k0m0) (c := k0c0) (by decide +kernel) rfl rfl rfl (by decide +kernel)
set_option maxRecDepth 65536 in
theorem w_c13 : (Jvm.Cond.code ({ cls := "com/example/frugal_retrieval/frugalretrieval/index/LinkGraph", name := "outDegree", desc := "(I)I" } : Jvm.MethodName) prog_48_method_6_code (2 : Nat) (Option.some Jvm.ClassFile.FieldType.int)).before args0 about1 = true := code_word (m := ⟨2, 2⟩) (meth := k2m2) (c := k2c2) (by decide +kernel) rfl rfl rfl (by decide +kernel)
set_option maxRecDepth 65536 in
theorem w_c14 : (Jvm.Cond.code ({ cls := "com/example/frugal_retrieval/frugalretrieval/index/LinkGraphOutDegreePinLaw", name := "dup", desc := "(II[I[I)Z" } : Jvm.MethodName) method_2_code (4 : Nat) (Option.some Jvm.ClassFile.FieldType.boolean)).before args0 about1 = true := code_word (m := ⟨1, 1⟩) (meth := k1m1) (c := k1c1) (by decide +kernel) rfl rfl rfl (by decide +kernel)
def codes1 : List Jvm.Cond := [Jvm.Cond.code x code maxLocals ret, Jvm.Cond.code ({ cls := "com/example/frugal_retrieval/frugalretrieval/index/LinkGraphOutDegreePinLaw", name := "slot", desc := "(III[I[I)I" } : Jvm.MethodName) method_3_code (5 : Nat) (Option.some Jvm.ClassFile.FieldType.int), Jvm.Cond.code ({ cls := "com/example/frugal_retrieval/frugalretrieval/index/LinkGraphOutDegreePinLaw", name := "prefix", desc := "([II)[I" } : Jvm.MethodName) method_4_code (3 : Nat) (Option.some (Jvm.ClassFile.FieldType.array Jvm.ClassFile.FieldType.int)), Jvm.Cond.code ({ cls := "com/example/frugal_retrieval/frugalretrieval/index/LinkGraph", name := "of", desc := "(I[I[I)Lcom/example/frugal_retrieval/frugalretrieval/index/LinkGraph;" } : Jvm.MethodName) prog_48_method_2_code (11 : Nat) (Option.some (Jvm.ClassFile.FieldType.object "com/example/frugal_retrieval/frugalretrieval/index/LinkGraph")), Jvm.Cond.code ({ cls := "java/util/Arrays", name := "copyOf", desc := "([II)[I" } : Jvm.MethodName) jdk_65_method_123_code (3 : Nat) (Option.some (Jvm.ClassFile.FieldType.array Jvm.ClassFile.FieldType.int)), Jvm.Cond.code ({ cls := "java/lang/Math", name := "min", desc := "(II)I" } : Jvm.MethodName) jdk_29_method_69_code (2 : Nat) (Option.some Jvm.ClassFile.FieldType.int), Jvm.Cond.code ({ cls := "java/util/Arrays", name := "sort", desc := "([III)V" } : Jvm.MethodName) jdk_65_method_3_code (3 : Nat) (Option.none : Option Jvm.ClassFile.FieldType), Jvm.Cond.code ({ cls := "java/util/Arrays", name := "rangeCheck", desc := "(III)V" } : Jvm.MethodName) jdk_65_method_30_code (3 : Nat) (Option.none : Option Jvm.ClassFile.FieldType), Jvm.Cond.code ({ cls := "java/util/DualPivotQuicksort", name := "sort", desc := "([IIII)V" } : Jvm.MethodName) jdk_2529_method_3_code (7 : Nat) (Option.none : Option Jvm.ClassFile.FieldType), Jvm.Cond.code ({ cls := "java/util/DualPivotQuicksort", name := "sort", desc := "(Ljava/util/DualPivotQuicksort$Sorter;[IIII)V" } : Jvm.MethodName) jdk_2529_method_4_code (21 : Nat) (Option.none : Option Jvm.ClassFile.FieldType), Jvm.Cond.code ({ cls := "java/util/DualPivotQuicksort", name := "insertionSort", desc := "([III)V" } : Jvm.MethodName) jdk_2529_method_6_code (6 : Nat) (Option.none : Option Jvm.ClassFile.FieldType), Jvm.Cond.code ({ cls := "com/example/frugal_retrieval/frugalretrieval/index/LinkGraph", name := "<init>", desc := "([I[I)V" } : Jvm.MethodName) prog_48_method_1_code (3 : Nat) (Option.none : Option Jvm.ClassFile.FieldType), Jvm.Cond.code ({ cls := "java/lang/Object", name := "<init>", desc := "()V" } : Jvm.MethodName) object_method_1_code (1 : Nat) (Option.none : Option Jvm.ClassFile.FieldType), Jvm.Cond.code ({ cls := "com/example/frugal_retrieval/frugalretrieval/index/LinkGraph", name := "outDegree", desc := "(I)I" } : Jvm.MethodName) prog_48_method_6_code (2 : Nat) (Option.some Jvm.ClassFile.FieldType.int), Jvm.Cond.code ({ cls := "com/example/frugal_retrieval/frugalretrieval/index/LinkGraphOutDegreePinLaw", name := "dup", desc := "(II[I[I)Z" } : Jvm.MethodName) method_2_code (4 : Nat) (Option.some Jvm.ClassFile.FieldType.boolean)]
set_option maxRecDepth 65536 in
theorem codes_eq : words1.filter isCode = codes1 := rfl
theorem w_codes : ∀ c ∈ words1.filter isCode, c.before args0 about1 = true := by
  rw [codes_eq]
  intro c hc
  simp only [codes1, List.mem_cons, List.not_mem_nil, or_false] at hc
  rcases hc with rfl | rfl | rfl | rfl | rfl | rfl | rfl | rfl | rfl | rfl | rfl | rfl | rfl | rfl | rfl
  · exact w_c0
  · exact w_c1
  · exact w_c2
  · exact w_c3
  · exact w_c4
  · exact w_c5
  · exact w_c6
  · exact w_c7
  · exact w_c8
  · exact w_c9
  · exact w_c10
  · exact w_c11
  · exact w_c12
  · exact w_c13
  · exact w_c14
set_option maxRecDepth 65536 in
theorem w_t1 : (words1.take 24).all (fun c => isCode c || c.before args0 about1) = true := by decide +kernel
set_option maxRecDepth 65536 in
theorem w_t2 : ((words1.drop 24).take 24).all (fun c => isCode c || c.before args0 about1) = true := by decide +kernel
set_option maxRecDepth 65536 in
theorem w_t3 : ((words1.drop 24).drop 24).all (fun c => isCode c || c.before args0 about1) = true := by decide +kernel
theorem w_tables : (allAtoms (Jvm.Cond.code x code maxLocals ret :: tables_1)).before args0 about1 = true := by
  rw [allAtoms_all]
  show words1.all (fun c => c.before args0 about1) = true
  refine all_split ?_ w_codes
  rw [← List.take_append_drop 24 words1, List.all_append, w_t1, ← List.take_append_drop 24 (words1.drop 24), List.all_append, w_t2, w_t3]
  rfl
set_option maxRecDepth 65536 in
theorem w_case : (Jvm.Cond.and given_1 narrow_1).before args0 about1 = true := by decide +kernel
theorem w_applies : (headSpec (Jvm.Cond.code x code maxLocals ret :: tables_1) room_1).applies x e0.platform about1 = true :=
  (Spec.applies_iff w_frames).mpr ⟨w_running, w_runnable, w_alone, w_named, w_hears, w_ripe, w_room, w_tables⟩
theorem atStart : AtStart classFile x code maxLocals ret World_1 tables_1 room_1 Calls_1 rest_1 Pre_1 launch0 p0 e0 about1 theMethod args0 below0 :=
  ⟨lists_1, trivial, launch0.admits_env _ _ _, launch0.least_env, fairChoices_fair.cas, fairChoices_fair.clock, w_frames, w_args, w_heap, w_applies, trivial, trivial, w_case⟩
end start1
theorem witness_1 : WitnessClaimed_1 := ⟨start1.p0, start1.e0, start1.about1, start1.theMethod, start1.args0, start1.below0, start1.atStart⟩
end Jvm.Pilot.@@N@@
