import JvmDerived
import JvmDerived.Pilot.@@N@@Statement
import JvmDerived.Pilot.@@N@@Code
set_option linter.unusedVariables false
set_option linter.unusedSimpArgs false
namespace Jvm.OwnKit
open Sem ClassFile Op Lib Jvm.Stand Jvm.Free Jvm.LawKit Jvm.RoadKit
/-! A small program logic over the library's laws of one family: Wp says that from a frame on the method comes back with Q. -/
def Cx (p : Program) (s : State) (m : MethodId) (meth : Method) (c : Code) (Z : State) (my : MethodName) (B : ByteArray) (ml : Nat) (ret : Option FieldType) : Prop :=
  p.tables.exec = Jvm.exec ∧ c.code = B ∧ c.maxLocals = ml ∧ Z.Warmed39 s.vm ∧ s.vm.findClass my.cls = some m.cls ∧ meth.name = my.name ∧ meth.sig.returnType = ret ∧ meth.locks = false
def Wp (l : Launch) (Z : State) (R : Room) (my : MethodName) (B : ByteArray) (ml : Nat) (ret : Option FieldType) (n0 : Nat) (Q : Option Value → Heap → Prop) (h : Heap) (cells slots pc : Nat) (L : Array Slot) (S : List Value) : Prop :=
  ∀ (p : Program) (e : Env) (s : State) (m : MethodId) (args : Array Value) (below : List Frame) (meth : Method) (c : Code) (T : State) (locs : List Loc),
    Cx p s m meth c Z my B ml ret → Stand p l e R s m args below meth c T locs cells slots → T.heap = h → Fr n0 locs →
    ∃ (s₂ : State) (o : Outcome), Steps p.tables e below (T.setTop (mkF m pc L S)) s₂ ∧ s₂.status = .running ∧ Ended s₂ below o ∧ ∃ v L', o = .returned v ∧ (Q v s₂.heap ∧ Fr n0 L') ∧ FrameEnd s o s₂ L' R.cells R.slots
/-- the contract of a method at given arguments and heap -/
def Met (l : Launch) (Z : State) (my : MethodName) (B : ByteArray) (ml : Nat) (ret : Option FieldType) (rm : Room) (as : Array Value) (h0 : Heap) (n0 : Nat) (Q : Option Value → Heap → Prop) : Prop :=
  ∀ ws : List Jvm.Cond, MetFree l my (head1 (Jvm.Cond.code my B ml ret :: ws) rm) (fun a U => a = as ∧ Z.Warmed39 U.vm ∧ U.heap = h0) (fun _ _ _ _ _ => True)
    (fun _ U o U' => ∃ v L, o = .returned v ∧ (Q v U'.heap ∧ Fr n0 L) ∧ FrameEnd U o U' L rm.cells rm.slots)
section Base
variable {l : Launch} {Z : State} {R : Room} {my : MethodName} {B : ByteArray} {ml : Nat} {ret : Option FieldType} {n0 : Nat} {Q : Option Value → Heap → Prop} {h : Heap} {cells slots pc : Nat} {L : Array Slot} {S : List Value} {a0 : Array Value}
theorem Met.of {as : Array Value} {L0 : Array Slot} (hpl : plainName my.cls = true) (ef : ∀ m, entryFrame m as ml = mkF m 0 L0 []) (body : Wp l Z R my B ml ret n0 Q h 0 0 0 L0 []) : Met l Z my B ml ret R as h n0 Q := by
  intro ws
  refine MetFree.of_bodySF (plainFor_of_name hpl) hisR ?_
  intro p e s m args below meth c s₁ Bd hml0 hP hK
  obtain ⟨rfl, hZ, hh⟩ := hP
  have X0 := Stand.of_body Bd
  have e0 : s₁.heap = h := by rw [← hh, Bd.state]; rfl
  obtain ⟨s₂, o, k1, k2⟩ := body p e s m _ below meth c s₁ [] ⟨Bd.exec, Bd.bytes, hml0, hZ, findClass_of_methodNamed Bd.named, (name_of_methodNamed Bd.named Bd.method).1, Bd.returns, Bd.notSynchronized⟩ X0 e0 (Fr.nil n0)
  exact ⟨s₂, o, castTop (ef m) k1, k2⟩
theorem Met.mono {rm : Room} {as : Array Value} {Q' : Option Value → Heap → Prop} (M : Met l Z my B ml ret rm as h n0 Q) (hq : ∀ v h', Q v h' → Q' v h') : Met l Z my B ml ret rm as h n0 Q' := by
  intro ws p e ha hc hk s m args below hf happ hP hK
  obtain ⟨n, o, h1, h2, h3, v, L, rfl, ⟨q1, q2⟩, q3⟩ := M ws p e ha hc hk s m args below hf happ hP hK
  exact ⟨n, _, h1, h2, h3, v, L, rfl, ⟨hq _ _ q1, q2⟩, q3⟩
theorem Wp.mono {Q' : Option Value → Heap → Prop} (W : Wp l Z R my B ml ret n0 Q h cells slots pc L S) (hq : ∀ v h', Q v h' → Q' v h') : Wp l Z R my B ml ret n0 Q' h cells slots pc L S := by
  intro p e s m args below meth c T locs K X eT N
  obtain ⟨s₂, o, k1, k2, k3, v, L', k4, k5, k6⟩ := W p e s m args below meth c T locs K X eT N
  exact ⟨s₂, o, k1, k2, k3, v, L', k4, ⟨hq _ _ k5.1, k5.2⟩, k6⟩
/-- the law's own body may end within any frame -/
theorem Wp.plain {pc' : Nat} {L' : Array Slot} {S' : List Value}
    (st : ∀ {p : Program} {e : Env} {s : State} {m : MethodId} {args : Array Value} {below : List Frame} {meth : Method} {c : Code} {T : State} {locs : List Loc}, Cx p s m meth c Z my B ml ret → Stand p l e R s m args below meth c T locs cells slots → T.heap = h → ∀ target, Steps p.tables e below (T.setTop (mkF m pc' L' S')) target → Steps p.tables e below (T.setTop (mkF m pc L S)) target)
    (r : Wp l Z R my B ml ret n0 Q h cells slots pc' L' S') : Wp l Z R my B ml ret n0 Q h cells slots pc L S := by
  intro p e s m args below meth c T locs K X eT N
  obtain ⟨s₂, o, k1, k2⟩ := r p e s m args below meth c T locs K X eT N
  exact ⟨s₂, o, st K X eT _ k1, k2⟩
theorem Wp.moved {pc' : Nat} {L' : Array Slot} {S' : List Value}
    (st : ∀ {p : Program} {e : Env} {s : State} {m : MethodId} {args : Array Value} {below : List Frame} {meth : Method} {c : Code} {T : State} {locs : List Loc}, Cx p s m meth c Z my B ml ret → Stand p l e R s m args below meth c T locs cells slots → T.heap = h → ∃ T', Stand p l e R s m args below meth c T' locs cells slots ∧ T'.heap = h ∧ ∀ target, Steps p.tables e below (T'.setTop (mkF m pc' L' S')) target → Steps p.tables e below (T.setTop (mkF m pc L S)) target)
    (r : Wp l Z R my B ml ret n0 Q h cells slots pc' L' S') : Wp l Z R my B ml ret n0 Q h cells slots pc L S := by
  intro p e s m args below meth c T locs K X eT N
  obtain ⟨T', X', e', st'⟩ := st K X eT
  obtain ⟨s₂, o, k1, k2⟩ := r p e s m args below meth c T' locs K X' e' N
  exact ⟨s₂, o, st' _ k1, k2⟩
/-! plain steps -/
theorem Wp.iloadN {k : Fin 4} {v : Int32} {pc' : Nat} (hd : decode B pc = .ok (.iload_n k, 1)) (hl : L[k.val]? = some (.val (.int v))) (hp : pc + 1 = pc') (r : Wp l Z R my B ml ret n0 Q h cells slots pc' L (.int v :: S)) : Wp l Z R my B ml ret n0 Q h cells slots pc L S := by
  subst hp; exact Wp.plain (fun K X _ target kt => XS.iloadN X.here K.1 rfl (hb K.2.1 hd) hl kt) r
theorem Wp.iload {k : Nat} {v : Int32} {pc' : Nat} (hd : decode B pc = .ok (.iload k, 2)) (hl : L[k]? = some (.val (.int v))) (hp : pc + 2 = pc') (r : Wp l Z R my B ml ret n0 Q h cells slots pc' L (.int v :: S)) : Wp l Z R my B ml ret n0 Q h cells slots pc L S := by
  subst hp; exact Wp.plain (fun K X _ target kt => XS.iload X.here K.1 rfl (hb K.2.1 hd) hl kt) r
theorem Wp.lloadN {k : Fin 4} {v : Int64} {pc' : Nat} (hd : decode B pc = .ok (.lload_n k, 1)) (hl : L[k.val]? = some (.val (.long v))) (hp : pc + 1 = pc') (r : Wp l Z R my B ml ret n0 Q h cells slots pc' L (.long v :: S)) : Wp l Z R my B ml ret n0 Q h cells slots pc L S := by
  subst hp; exact Wp.plain (fun K X _ target kt => XT.lloadN X.here K.1 rfl (hb K.2.1 hd) hl kt) r
theorem Wp.lload {k : Nat} {v : Int64} {pc' : Nat} (hd : decode B pc = .ok (.lload k, 2)) (hl : L[k]? = some (.val (.long v))) (hp : pc + 2 = pc') (r : Wp l Z R my B ml ret n0 Q h cells slots pc' L (.long v :: S)) : Wp l Z R my B ml ret n0 Q h cells slots pc L S := by
  subst hp; exact Wp.plain (fun K X _ target kt => XT.lload X.here K.1 rfl (hb K.2.1 hd) hl kt) r
theorem Wp.aloadN {k : Fin 4} {v : Value} {pc' : Nat} (hd : decode B pc = .ok (.aload_n k, 1)) (hl : L[k.val]? = some (.val v)) (hv : v.isRef = true) (hp : pc + 1 = pc') (r : Wp l Z R my B ml ret n0 Q h cells slots pc' L (v :: S)) : Wp l Z R my B ml ret n0 Q h cells slots pc L S := by
  subst hp; exact Wp.plain (fun K X _ target kt => XS.aloadN X.here K.1 rfl (hb K.2.1 hd) hl hv kt) r
theorem Wp.aload {k : Nat} {v : Value} {pc' : Nat} (hd : decode B pc = .ok (.aload k, 2)) (hl : L[k]? = some (.val v)) (hv : v.isRef = true) (hp : pc + 2 = pc') (r : Wp l Z R my B ml ret n0 Q h cells slots pc' L (v :: S)) : Wp l Z R my B ml ret n0 Q h cells slots pc L S := by
  subst hp; exact Wp.plain (fun K X _ target kt => XS.aload X.here K.1 rfl (hb K.2.1 hd) hl hv kt) r
theorem Wp.iconst {i : Int} {z : Int32} {pc' : Nat} (hd : decode B pc = .ok (.iconst i, 1)) (hz : Int32.ofInt i = z) (hp : pc + 1 = pc') (r : Wp l Z R my B ml ret n0 Q h cells slots pc' L (.int z :: S)) : Wp l Z R my B ml ret n0 Q h cells slots pc L S := by
  subst hp hz; exact Wp.plain (fun K X _ target kt => XS.iconst X.here K.1 rfl (hb K.2.1 hd) kt) r
theorem Wp.bipush {i : Int} {z : Int32} {pc' : Nat} (hd : decode B pc = .ok (.bipush i, 2)) (hz : (Int8.ofInt i).toInt32 = z) (hp : pc + 2 = pc') (r : Wp l Z R my B ml ret n0 Q h cells slots pc' L (.int z :: S)) : Wp l Z R my B ml ret n0 Q h cells slots pc L S := by
  subst hp hz; exact Wp.plain (fun K X _ target kt => XS.bipush X.here K.1 rfl (hb K.2.1 hd) kt) r
theorem Wp.sipush {i : Int} {z : Int32} {pc' : Nat} (hd : decode B pc = .ok (.sipush i, 3)) (hz : (Int16.ofInt i).toInt32 = z) (hp : pc + 3 = pc') (r : Wp l Z R my B ml ret n0 Q h cells slots pc' L (.int z :: S)) : Wp l Z R my B ml ret n0 Q h cells slots pc L S := by
  subst hp hz; exact Wp.plain (fun K X _ target kt => XS.sipush X.here K.1 rfl (hb K.2.1 hd) kt) r
theorem Wp.lconst {k : Fin 2} {z : Int64} {pc' : Nat} (hd : decode B pc = .ok (.lconst k, 1)) (hz : Int64.ofNat k = z) (hp : pc + 1 = pc') (r : Wp l Z R my B ml ret n0 Q h cells slots pc' L (.long z :: S)) : Wp l Z R my B ml ret n0 Q h cells slots pc L S := by
  subst hp hz; exact Wp.plain (fun K X _ target kt => XT.lconst X.here K.1 rfl (hb K.2.1 hd) kt) r
theorem Wp.aconstNull {pc' : Nat} (hd : decode B pc = .ok (.aconst_null, 1)) (hp : pc + 1 = pc') (r : Wp l Z R my B ml ret n0 Q h cells slots pc' L (.null :: S)) : Wp l Z R my B ml ret n0 Q h cells slots pc L S := by
  subst hp; exact Wp.plain (fun K X _ target kt => XS.aconstNull X.here K.1 rfl (hb K.2.1 hd) kt) r
theorem Wp.ldcInt {index : Nat} {v : Int32} {pc' : Nat} (w : (Jvm.Cond.constant my.cls index v).before a0 Z = true) (hd : decode B pc = .ok (.ldc index, 2)) (hp : pc + 2 = pc') (r : Wp l Z R my B ml ret n0 Q h cells slots pc' L (.int v :: S)) : Wp l Z R my B ml ret n0 Q h cells slots pc L S := by
  subst hp; exact Wp.plain (fun K X _ target kt => X.ldcInt K.1 K.2.2.2.2.1 (mv K.2.2.2.1 w) (g := mkF _ pc L S) rfl (hb K.2.1 hd) target kt) r
theorem Wp.ldc2Long {index : Nat} {v : Int64} {pc' : Nat} (w : (Jvm.Cond.constantLong my.cls index v).before a0 Z = true) (hd : decode B pc = .ok (.ldc2_w index, 3)) (hp : pc + 3 = pc') (r : Wp l Z R my B ml ret n0 Q h cells slots pc' L (.long v :: S)) : Wp l Z R my B ml ret n0 Q h cells slots pc L S := by
  subst hp; exact Wp.plain (fun K X _ target kt => X.ldc2Long K.1 K.2.2.2.2.1 (mv K.2.2.2.1 w) (g := mkF _ pc L S) rfl (hb K.2.1 hd) target kt) r
theorem Wp.istoreN {k : Fin 4} {v : Int32} {L' : Array Slot} {pc' : Nat} (hd : decode B pc = .ok (.istore_n k, 1)) (hl : storeLocals L k.val (.int v) = some L') (hp : pc + 1 = pc') (r : Wp l Z R my B ml ret n0 Q h cells slots pc' L' S) : Wp l Z R my B ml ret n0 Q h cells slots pc L (.int v :: S) := by
  subst hp; exact Wp.plain (fun K X _ target kt => XS.istoreN X.here K.1 rfl (hb K.2.1 hd) rfl hl kt) r
theorem Wp.istore {k : Nat} {v : Int32} {L' : Array Slot} {pc' : Nat} (hd : decode B pc = .ok (.istore k, 2)) (hl : storeLocals L k (.int v) = some L') (hp : pc + 2 = pc') (r : Wp l Z R my B ml ret n0 Q h cells slots pc' L' S) : Wp l Z R my B ml ret n0 Q h cells slots pc L (.int v :: S) := by
  subst hp; exact Wp.plain (fun K X _ target kt => XS.istore X.here K.1 rfl (hb K.2.1 hd) rfl hl kt) r
theorem Wp.lstoreN {k : Fin 4} {v : Int64} {L' : Array Slot} {pc' : Nat} (hd : decode B pc = .ok (.lstore_n k, 1)) (hl : storeLocals L k.val (.long v) = some L') (hp : pc + 1 = pc') (r : Wp l Z R my B ml ret n0 Q h cells slots pc' L' S) : Wp l Z R my B ml ret n0 Q h cells slots pc L (.long v :: S) := by
  subst hp; exact Wp.plain (fun K X _ target kt => XT.lstoreN X.here K.1 rfl (hb K.2.1 hd) rfl hl kt) r
theorem Wp.lstore {k : Nat} {v : Int64} {L' : Array Slot} {pc' : Nat} (hd : decode B pc = .ok (.lstore k, 2)) (hl : storeLocals L k (.long v) = some L') (hp : pc + 2 = pc') (r : Wp l Z R my B ml ret n0 Q h cells slots pc' L' S) : Wp l Z R my B ml ret n0 Q h cells slots pc L (.long v :: S) := by
  subst hp; exact Wp.plain (fun K X _ target kt => XT.lstore X.here K.1 rfl (hb K.2.1 hd) rfl hl kt) r
theorem Wp.astoreN {k : Fin 4} {v : Value} {L' : Array Slot} {pc' : Nat} (hd : decode B pc = .ok (.astore_n k, 1)) (hv : v.isRef = true) (hl : storeLocals L k.val v = some L') (hp : pc + 1 = pc') (r : Wp l Z R my B ml ret n0 Q h cells slots pc' L' S) : Wp l Z R my B ml ret n0 Q h cells slots pc L (v :: S) := by
  subst hp; exact Wp.plain (fun K X _ target kt => XS.astoreN X.here K.1 rfl (hb K.2.1 hd) rfl hv hl kt) r
theorem Wp.astore {k : Nat} {v : Value} {L' : Array Slot} {pc' : Nat} (hd : decode B pc = .ok (.astore k, 2)) (hv : v.isRef = true) (hl : storeLocals L k v = some L') (hp : pc + 2 = pc') (r : Wp l Z R my B ml ret n0 Q h cells slots pc' L' S) : Wp l Z R my B ml ret n0 Q h cells slots pc L (v :: S) := by
  subst hp; exact Wp.plain (fun K X _ target kt => XS.astore X.here K.1 rfl (hb K.2.1 hd) rfl hv hl kt) r
theorem Wp.iinc {k : Nat} {cst : Int} {x z : Int32} {L' : Array Slot} {pc' : Nat} (hd : decode B pc = .ok (.iinc k cst, 3)) (hl : L[k]? = some (.val (.int x))) (hz : x + Int32.ofInt cst = z) (hl' : storeLocals L k (.int z) = some L') (hp : pc + 3 = pc') (r : Wp l Z R my B ml ret n0 Q h cells slots pc' L' S) : Wp l Z R my B ml ret n0 Q h cells slots pc L S := by
  subst hp hz; exact Wp.plain (fun K X _ target kt => XS.iinc X.here K.1 rfl (hb K.2.1 hd) hl hl' kt) r
theorem Wp.dup {v : Value} {pc' : Nat} (hd : decode B pc = .ok (.dup, 1)) (hc : v.category = 1) (hp : pc + 1 = pc') (r : Wp l Z R my B ml ret n0 Q h cells slots pc' L (v :: v :: S)) : Wp l Z R my B ml ret n0 Q h cells slots pc L (v :: S) := by
  subst hp; exact Wp.plain (fun K X _ target kt => XS.dup X.here K.1 rfl (hb K.2.1 hd) rfl hc kt) r
theorem Wp.dupX1 {v w : Value} {pc' : Nat} (hd : decode B pc = .ok (.dup_x1, 1)) (hc : v.category = 1) (hc' : w.category = 1) (hp : pc + 1 = pc') (r : Wp l Z R my B ml ret n0 Q h cells slots pc' L (v :: w :: v :: S)) : Wp l Z R my B ml ret n0 Q h cells slots pc L (v :: w :: S) := by
  subst hp; exact Wp.plain (fun K X _ target kt => XT.dupX1 X.here K.1 rfl (hb K.2.1 hd) rfl hc hc' kt) r
theorem Wp.dup2 {v w : Value} {pc' : Nat} (hd : decode B pc = .ok (.dup2, 1)) (hc : v.category = 1) (hc' : w.category = 1) (hp : pc + 1 = pc') (r : Wp l Z R my B ml ret n0 Q h cells slots pc' L (v :: w :: v :: w :: S)) : Wp l Z R my B ml ret n0 Q h cells slots pc L (v :: w :: S) := by
  subst hp; exact Wp.plain (fun K X _ target kt => XT.dup2 X.here K.1 rfl (hb K.2.1 hd) rfl hc hc' kt) r
theorem Wp.dupX2 {u v w : Value} {pc' : Nat} (hd : decode B pc = .ok (.dup_x2, 1)) (hc : u.category = 1) (hc' : v.category = 1) (hc'' : w.category = 1) (hp : pc + 1 = pc') (r : Wp l Z R my B ml ret n0 Q h cells slots pc' L (u :: v :: w :: u :: S)) : Wp l Z R my B ml ret n0 Q h cells slots pc L (u :: v :: w :: S) := by
  subst hp
  refine Wp.plain (fun {p e s m args below meth c T locs} K X _ target kt => ?_) r
  have hx := K.1
  have hd' : decode c.code pc = .ok (.dup_x2, 1) := hb K.2.1 hd
  show Steps p.tables e below (T.setTop { method := m, pc := pc, locals := L, stack := u :: v :: w :: S, locked := none }) _
  jvm_step X.here [X.here.top, hx, hd', dup_x2.wp_sem, hc, hc', hc'']
  exact kt
theorem Wp.pop {v : Value} {pc' : Nat} (hd : decode B pc = .ok (.pop, 1)) (hc : v.category = 1) (hp : pc + 1 = pc') (r : Wp l Z R my B ml ret n0 Q h cells slots pc' L S) : Wp l Z R my B ml ret n0 Q h cells slots pc L (v :: S) := by
  subst hp; exact Wp.plain (fun K X _ target kt => XT.pop X.here K.1 rfl (hb K.2.1 hd) rfl hc kt) r
theorem Wp.iadd {x y z : Int32} {pc' : Nat} (hd : decode B pc = .ok (.iadd, 1)) (hz : x + y = z) (hp : pc + 1 = pc') (r : Wp l Z R my B ml ret n0 Q h cells slots pc' L (.int z :: S)) : Wp l Z R my B ml ret n0 Q h cells slots pc L (.int y :: .int x :: S) := by
  subst hp hz; exact Wp.plain (fun K X _ target kt => XS.iadd X.here K.1 rfl (hb K.2.1 hd) rfl kt) r
theorem Wp.isub {x y z : Int32} {pc' : Nat} (hd : decode B pc = .ok (.isub, 1)) (hz : x - y = z) (hp : pc + 1 = pc') (r : Wp l Z R my B ml ret n0 Q h cells slots pc' L (.int z :: S)) : Wp l Z R my B ml ret n0 Q h cells slots pc L (.int y :: .int x :: S) := by
  subst hp hz; exact Wp.plain (fun K X _ target kt => XS.isub X.here K.1 rfl (hb K.2.1 hd) rfl kt) r
theorem Wp.iand {x y z : Int32} {pc' : Nat} (hd : decode B pc = .ok (.iand, 1)) (hz : x &&& y = z) (hp : pc + 1 = pc') (r : Wp l Z R my B ml ret n0 Q h cells slots pc' L (.int z :: S)) : Wp l Z R my B ml ret n0 Q h cells slots pc L (.int y :: .int x :: S) := by
  subst hp hz; exact Wp.plain (fun K X _ target kt => XS.iand X.here K.1 rfl (hb K.2.1 hd) rfl kt) r
theorem Wp.imul {x y z : Int32} {pc' : Nat} (hd : decode B pc = .ok (.imul, 1)) (hz : x * y = z) (hp : pc + 1 = pc') (r : Wp l Z R my B ml ret n0 Q h cells slots pc' L (.int z :: S)) : Wp l Z R my B ml ret n0 Q h cells slots pc L (.int y :: .int x :: S) := by
  subst hp hz; exact Wp.plain (fun K X _ target kt => XS.imul X.here K.1 rfl (hb K.2.1 hd) rfl kt) r
theorem Wp.ior {x y z : Int32} {pc' : Nat} (hd : decode B pc = .ok (.ior, 1)) (hz : x ||| y = z) (hp : pc + 1 = pc') (r : Wp l Z R my B ml ret n0 Q h cells slots pc' L (.int z :: S)) : Wp l Z R my B ml ret n0 Q h cells slots pc L (.int y :: .int x :: S) := by
  subst hp hz; exact Wp.plain (fun K X _ target kt => XT.ior X.here K.1 rfl (hb K.2.1 hd) rfl kt) r
theorem Wp.ixor {x y z : Int32} {pc' : Nat} (hd : decode B pc = .ok (.ixor, 1)) (hz : x ^^^ y = z) (hp : pc + 1 = pc') (r : Wp l Z R my B ml ret n0 Q h cells slots pc' L (.int z :: S)) : Wp l Z R my B ml ret n0 Q h cells slots pc L (.int y :: .int x :: S) := by
  subst hp hz; exact Wp.plain (fun K X _ target kt => XT.ixor X.here K.1 rfl (hb K.2.1 hd) rfl kt) r
theorem Wp.ishl {x y z : Int32} {pc' : Nat} (hd : decode B pc = .ok (.ishl, 1)) (hz : x <<< (y &&& 31) = z) (hp : pc + 1 = pc') (r : Wp l Z R my B ml ret n0 Q h cells slots pc' L (.int z :: S)) : Wp l Z R my B ml ret n0 Q h cells slots pc L (.int y :: .int x :: S) := by
  subst hp hz; exact Wp.plain (fun K X _ target kt => XT.ishl X.here K.1 rfl (hb K.2.1 hd) rfl kt) r
theorem Wp.ishr {x y z : Int32} {pc' : Nat} (hd : decode B pc = .ok (.ishr, 1)) (hz : x >>> (y &&& 31) = z) (hp : pc + 1 = pc') (r : Wp l Z R my B ml ret n0 Q h cells slots pc' L (.int z :: S)) : Wp l Z R my B ml ret n0 Q h cells slots pc L (.int y :: .int x :: S) := by
  subst hp hz; exact Wp.plain (fun K X _ target kt => XT.ishr X.here K.1 rfl (hb K.2.1 hd) rfl kt) r
theorem Wp.iushr {x y z : Int32} {pc' : Nat} (hd : decode B pc = .ok (.iushr, 1)) (hz : XT.ushr x y = z) (hp : pc + 1 = pc') (r : Wp l Z R my B ml ret n0 Q h cells slots pc' L (.int z :: S)) : Wp l Z R my B ml ret n0 Q h cells slots pc L (.int y :: .int x :: S) := by
  subst hp hz; exact Wp.plain (fun K X _ target kt => XT.iushr X.here K.1 rfl (hb K.2.1 hd) rfl kt) r
theorem Wp.ladd {x y z : Int64} {pc' : Nat} (hd : decode B pc = .ok (.ladd, 1)) (hz : x + y = z) (hp : pc + 1 = pc') (r : Wp l Z R my B ml ret n0 Q h cells slots pc' L (.long z :: S)) : Wp l Z R my B ml ret n0 Q h cells slots pc L (.long y :: .long x :: S) := by
  subst hp hz; exact Wp.plain (fun K X _ target kt => XT.ladd X.here K.1 rfl (hb K.2.1 hd) rfl kt) r
theorem Wp.lsub {x y z : Int64} {pc' : Nat} (hd : decode B pc = .ok (.lsub, 1)) (hz : x - y = z) (hp : pc + 1 = pc') (r : Wp l Z R my B ml ret n0 Q h cells slots pc' L (.long z :: S)) : Wp l Z R my B ml ret n0 Q h cells slots pc L (.long y :: .long x :: S) := by
  subst hp hz; exact Wp.plain (fun K X _ target kt => XT.lsub X.here K.1 rfl (hb K.2.1 hd) rfl kt) r
theorem Wp.lmul {x y z : Int64} {pc' : Nat} (hd : decode B pc = .ok (.lmul, 1)) (hz : x * y = z) (hp : pc + 1 = pc') (r : Wp l Z R my B ml ret n0 Q h cells slots pc' L (.long z :: S)) : Wp l Z R my B ml ret n0 Q h cells slots pc L (.long y :: .long x :: S) := by
  subst hp hz; exact Wp.plain (fun K X _ target kt => XT.lmul X.here K.1 rfl (hb K.2.1 hd) rfl kt) r
theorem Wp.land {x y z : Int64} {pc' : Nat} (hd : decode B pc = .ok (.land, 1)) (hz : x &&& y = z) (hp : pc + 1 = pc') (r : Wp l Z R my B ml ret n0 Q h cells slots pc' L (.long z :: S)) : Wp l Z R my B ml ret n0 Q h cells slots pc L (.long y :: .long x :: S) := by
  subst hp hz; exact Wp.plain (fun K X _ target kt => XT.land X.here K.1 rfl (hb K.2.1 hd) rfl kt) r
theorem Wp.lor {x y z : Int64} {pc' : Nat} (hd : decode B pc = .ok (.lor, 1)) (hz : x ||| y = z) (hp : pc + 1 = pc') (r : Wp l Z R my B ml ret n0 Q h cells slots pc' L (.long z :: S)) : Wp l Z R my B ml ret n0 Q h cells slots pc L (.long y :: .long x :: S) := by
  subst hp hz; exact Wp.plain (fun K X _ target kt => XT.lor X.here K.1 rfl (hb K.2.1 hd) rfl kt) r
theorem Wp.lxor {x y z : Int64} {pc' : Nat} (hd : decode B pc = .ok (.lxor, 1)) (hz : x ^^^ y = z) (hp : pc + 1 = pc') (r : Wp l Z R my B ml ret n0 Q h cells slots pc' L (.long z :: S)) : Wp l Z R my B ml ret n0 Q h cells slots pc L (.long y :: .long x :: S) := by
  subst hp hz; exact Wp.plain (fun K X _ target kt => XT.lxor X.here K.1 rfl (hb K.2.1 hd) rfl kt) r
theorem Wp.i2l {x : Int32} {z : Int64} {pc' : Nat} (hd : decode B pc = .ok (.i2l, 1)) (hz : x.toInt64 = z) (hp : pc + 1 = pc') (r : Wp l Z R my B ml ret n0 Q h cells slots pc' L (.long z :: S)) : Wp l Z R my B ml ret n0 Q h cells slots pc L (.int x :: S) := by
  subst hp hz; exact Wp.plain (fun K X _ target kt => XT.i2l X.here K.1 rfl (hb K.2.1 hd) rfl kt) r
theorem Wp.l2i {x : Int64} {z : Int32} {pc' : Nat} (hd : decode B pc = .ok (.l2i, 1)) (hz : x.toInt32 = z) (hp : pc + 1 = pc') (r : Wp l Z R my B ml ret n0 Q h cells slots pc' L (.int z :: S)) : Wp l Z R my B ml ret n0 Q h cells slots pc L (.long x :: S) := by
  subst hp hz; exact Wp.plain (fun K X _ target kt => XT.l2i X.here K.1 rfl (hb K.2.1 hd) rfl kt) r
theorem Wp.i2b {x : Int32} {z : Int32} {pc' : Nat} (hd : decode B pc = .ok (.i2b, 1)) (hz : x.toInt8.toInt32 = z) (hp : pc + 1 = pc') (r : Wp l Z R my B ml ret n0 Q h cells slots pc' L (.int z :: S)) : Wp l Z R my B ml ret n0 Q h cells slots pc L (.int x :: S) := by
  subst hp hz; exact Wp.plain (fun K X _ target kt => XT.i2b X.here K.1 rfl (hb K.2.1 hd) rfl kt) r
theorem Wp.i2c {x : Int32} {z : Int32} {pc' : Nat} (hd : decode B pc = .ok (.i2c, 1)) (hz : x.toUInt32.toUInt16.toUInt32.toInt32 = z) (hp : pc + 1 = pc') (r : Wp l Z R my B ml ret n0 Q h cells slots pc' L (.int z :: S)) : Wp l Z R my B ml ret n0 Q h cells slots pc L (.int x :: S) := by
  subst hp hz; exact Wp.plain (fun K X _ target kt => XT.i2c X.here K.1 rfl (hb K.2.1 hd) rfl kt) r
theorem Wp.lshl {x z : Int64} {y : Int32} {pc' : Nat} (hd : decode B pc = .ok (.lshl, 1)) (hz : x <<< (y.toInt64 &&& 63) = z) (hp : pc + 1 = pc') (r : Wp l Z R my B ml ret n0 Q h cells slots pc' L (.long z :: S)) : Wp l Z R my B ml ret n0 Q h cells slots pc L (.int y :: .long x :: S) := by
  subst hp hz; exact Wp.plain (fun K X _ target kt => XT.lshl X.here K.1 rfl (hb K.2.1 hd) rfl kt) r
theorem Wp.lshr {x z : Int64} {y : Int32} {pc' : Nat} (hd : decode B pc = .ok (.lshr, 1)) (hz : x >>> (y.toInt64 &&& 63) = z) (hp : pc + 1 = pc') (r : Wp l Z R my B ml ret n0 Q h cells slots pc' L (.long z :: S)) : Wp l Z R my B ml ret n0 Q h cells slots pc L (.int y :: .long x :: S) := by
  subst hp hz; exact Wp.plain (fun K X _ target kt => XT.lshr X.here K.1 rfl (hb K.2.1 hd) rfl kt) r
theorem Wp.lushr {x z : Int64} {y : Int32} {pc' : Nat} (hd : decode B pc = .ok (.lushr, 1)) (hz : XT.ushrL x y = z) (hp : pc + 1 = pc') (r : Wp l Z R my B ml ret n0 Q h cells slots pc' L (.long z :: S)) : Wp l Z R my B ml ret n0 Q h cells slots pc L (.int y :: .long x :: S) := by
  subst hp hz; exact Wp.plain (fun K X _ target kt => XT.lushr X.here K.1 rfl (hb K.2.1 hd) rfl kt) r
theorem Wp.idiv {x y z : Int32} {pc' : Nat} (hd : decode B pc = .ok (.idiv, 1)) (hy : y ≠ 0) (hz : x / y = z) (hp : pc + 1 = pc') (r : Wp l Z R my B ml ret n0 Q h cells slots pc' L (.int z :: S)) : Wp l Z R my B ml ret n0 Q h cells slots pc L (.int y :: .int x :: S) := by
  subst hp hz; exact Wp.plain (fun K X _ target kt => XS.idiv X.here K.1 rfl (hb K.2.1 hd) rfl hy kt) r
theorem Wp.ldiv {x y z : Int64} {pc' : Nat} (hd : decode B pc = .ok (.ldiv, 1)) (hy : y ≠ 0) (hz : x / y = z) (hp : pc + 1 = pc') (r : Wp l Z R my B ml ret n0 Q h cells slots pc' L (.long z :: S)) : Wp l Z R my B ml ret n0 Q h cells slots pc L (.long y :: .long x :: S) := by
  subst hp hz; exact Wp.plain (fun K X _ target kt => XT.ldiv X.here K.1 rfl (hb K.2.1 hd) rfl hy kt) r
theorem Wp.lrem {x y z : Int64} {pc' : Nat} (hd : decode B pc = .ok (.lrem, 1)) (hy : y ≠ 0) (hz : x - (x / y) * y = z) (hp : pc + 1 = pc') (r : Wp l Z R my B ml ret n0 Q h cells slots pc' L (.long z :: S)) : Wp l Z R my B ml ret n0 Q h cells slots pc L (.long y :: .long x :: S) := by
  subst hp hz; exact Wp.plain (fun K X _ target kt => XT.lrem X.here K.1 rfl (hb K.2.1 hd) rfl hy kt) r
theorem Wp.irem {x y z : Int32} {pc' : Nat} (hd : decode B pc = .ok (.irem, 1)) (hy : y ≠ 0) (hz : x % y = z) (hp : pc + 1 = pc') (r : Wp l Z R my B ml ret n0 Q h cells slots pc' L (.int z :: S)) : Wp l Z R my B ml ret n0 Q h cells slots pc L (.int y :: .int x :: S) := by
  subst hp hz; exact Wp.plain (fun K X _ target kt => iremM X K.1 rfl (hb K.2.1 hd) rfl hy kt) r
theorem Wp.goto {o : Int} {pc' : Nat} (hd : decode B pc = .ok (.goto o, 3)) (ho : 0 ≤ (pc : Int) + o) (hp : ((pc : Int) + o).toNat = pc') (r : Wp l Z R my B ml ret n0 Q h cells slots pc' L S) : Wp l Z R my B ml ret n0 Q h cells slots pc L S :=
  Wp.plain (fun K X _ target kt => XS.goto X.here K.1 rfl rfl (hb K.2.1 hd) ho hp kt) r
/-- what a comparison asks -/
abbrev cdP (cd : ClassFile.Cond) (x y : Int32) : Prop := match cd with | .eq => x = y | .ne => x ≠ y | .lt => x < y | .ge => ¬ x < y | .gt => y < x | .le => ¬ y < x
theorem cdP_iff (cd : ClassFile.Cond) (x y : Int32) : if_icmp.holds cd x y = true ↔ cdP cd x y := by
  cases cd <;> simp [if_icmp.holds, cdP, Int32.not_lt]
theorem cdP_not (cd : ClassFile.Cond) (x y : Int32) (h : ¬ cdP cd x y) : if_icmp.holds cd x y = false := by
  cases q : if_icmp.holds cd x y
  · rfl
  · exact absurd ((cdP_iff cd x y).mp q) h
theorem Wp.icmpY {cd : ClassFile.Cond} {x y : Int32} {o : Int} {pc' : Nat} (hd : decode B pc = .ok (.if_icmp cd o, 3)) (hc : cdP cd x y) (ho : 0 ≤ (pc : Int) + o) (hp : ((pc : Int) + o).toNat = pc') (r : Wp l Z R my B ml ret n0 Q h cells slots pc' L S) : Wp l Z R my B ml ret n0 Q h cells slots pc L (.int y :: .int x :: S) :=
  Wp.plain (fun K X _ target kt => XS.icmpYes X.here K.1 rfl rfl (hb K.2.1 hd) rfl ((cdP_iff cd x y).mpr hc) ho hp kt) r
theorem Wp.icmpN {cd : ClassFile.Cond} {x y : Int32} {o : Int} {pc' : Nat} (hd : decode B pc = .ok (.if_icmp cd o, 3)) (hc : ¬ cdP cd x y) (hp : pc + 3 = pc') (r : Wp l Z R my B ml ret n0 Q h cells slots pc' L S) : Wp l Z R my B ml ret n0 Q h cells slots pc L (.int y :: .int x :: S) := by
  subst hp; exact Wp.plain (fun K X _ target kt => XS.icmpNo X.here K.1 rfl (hb K.2.1 hd) rfl (cdP_not cd x y hc) kt) r
theorem Wp.ifY {cd : ClassFile.Cond} {x : Int32} {o : Int} {pc' : Nat} (hd : decode B pc = .ok (.ifCond cd o, 3)) (hc : cdP cd x 0) (ho : 0 ≤ (pc : Int) + o) (hp : ((pc : Int) + o).toNat = pc') (r : Wp l Z R my B ml ret n0 Q h cells slots pc' L S) : Wp l Z R my B ml ret n0 Q h cells slots pc L (.int x :: S) :=
  Wp.plain (fun K X _ target kt => XS.ifYes X.here K.1 rfl rfl (hb K.2.1 hd) rfl ((if0 _ _).trans ((cdP_iff cd x 0).mpr hc)) ho hp kt) r
theorem Wp.ifN {cd : ClassFile.Cond} {x : Int32} {o : Int} {pc' : Nat} (hd : decode B pc = .ok (.ifCond cd o, 3)) (hc : ¬ cdP cd x 0) (hp : pc + 3 = pc') (r : Wp l Z R my B ml ret n0 Q h cells slots pc' L S) : Wp l Z R my B ml ret n0 Q h cells slots pc L (.int x :: S) := by
  subst hp; exact Wp.plain (fun K X _ target kt => XS.ifNo X.here K.1 rfl (hb K.2.1 hd) rfl ((if0 _ _).trans (cdP_not cd x 0 hc)) kt) r
/-- lcmp, then a branch on it -/
abbrev cdL (cd : ClassFile.Cond) (x y : Int64) : Prop := match cd with | .eq => x = y | .ne => x ≠ y | .lt => x < y | .ge => ¬ x < y | .gt => y < x | .le => ¬ y < x
theorem cmpL_lt (x y : Int64) : XT.cmpL x y < 0 ↔ x < y := lw_lt x y
theorem cmpL_gt (x y : Int64) : 0 < XT.cmpL x y ↔ y < x := lw_gt x y
theorem cmpL_eq (x y : Int64) : XT.cmpL x y = 0 ↔ x = y := lw_eq x y
theorem cdL_iff (cd : ClassFile.Cond) (x y : Int64) : cdP cd (XT.cmpL x y) 0 ↔ cdL cd x y := by
  cases cd
  · exact cmpL_eq x y
  · exact not_congr (cmpL_eq x y)
  · exact cmpL_lt x y
  · exact not_congr (cmpL_lt x y)
  · exact cmpL_gt x y
  · exact not_congr (cmpL_gt x y)
theorem Wp.lcmp {x y : Int64} {z : Int32} {pc' : Nat} (hd : decode B pc = .ok (.lcmp, 1)) (hz : XT.cmpL x y = z) (hp : pc + 1 = pc') (r : Wp l Z R my B ml ret n0 Q h cells slots pc' L (.int z :: S)) : Wp l Z R my B ml ret n0 Q h cells slots pc L (.long y :: .long x :: S) := by
  subst hp hz; exact Wp.plain (fun K X _ target kt => XT.lcmp X.here K.1 rfl (hb K.2.1 hd) rfl kt) r
theorem Wp.lcmpY {cd : ClassFile.Cond} {x y : Int64} {o : Int} {p1 pc' : Nat} (hd : decode B pc = .ok (.lcmp, 1)) (h1 : pc + 1 = p1) (hd' : decode B p1 = .ok (.ifCond cd o, 3)) (hc : cdL cd x y) (ho : 0 ≤ (p1 : Int) + o) (hp : ((p1 : Int) + o).toNat = pc') (r : Wp l Z R my B ml ret n0 Q h cells slots pc' L S) : Wp l Z R my B ml ret n0 Q h cells slots pc L (.long y :: .long x :: S) :=
  Wp.lcmp hd rfl h1 (Wp.ifY hd' ((cdL_iff cd x y).mpr hc) ho hp r)
theorem Wp.lcmpN {cd : ClassFile.Cond} {x y : Int64} {o : Int} {p1 pc' : Nat} (hd : decode B pc = .ok (.lcmp, 1)) (h1 : pc + 1 = p1) (hd' : decode B p1 = .ok (.ifCond cd o, 3)) (hc : ¬ cdL cd x y) (hp : p1 + 3 = pc') (r : Wp l Z R my B ml ret n0 Q h cells slots pc' L S) : Wp l Z R my B ml ret n0 Q h cells slots pc L (.long y :: .long x :: S) :=
  Wp.lcmp hd rfl h1 (Wp.ifN hd' (fun q => hc ((cdL_iff cd x y).mp q)) hp r)
theorem Wp.ifnullY {o : Int} {pc' : Nat} (hd : decode B pc = .ok (.ifnull o, 3)) (ho : 0 ≤ (pc : Int) + o) (hp : ((pc : Int) + o).toNat = pc') (r : Wp l Z R my B ml ret n0 Q h cells slots pc' L S) : Wp l Z R my B ml ret n0 Q h cells slots pc L (.null :: S) :=
  Wp.plain (fun K X _ target kt => XS.ifnullYes X.here K.1 rfl rfl (hb K.2.1 hd) rfl ho hp kt) r
theorem Wp.ifnullN {a : Addr} {o : Int} {pc' : Nat} (hd : decode B pc = .ok (.ifnull o, 3)) (hp : pc + 3 = pc') (r : Wp l Z R my B ml ret n0 Q h cells slots pc' L S) : Wp l Z R my B ml ret n0 Q h cells slots pc L (.ref a :: S) := by
  subst hp; exact Wp.plain (fun K X _ target kt => XS.ifnullNo X.here K.1 rfl (hb K.2.1 hd) rfl kt) r
theorem Wp.ifnonnullY {a : Addr} {o : Int} {pc' : Nat} (hd : decode B pc = .ok (.ifnonnull o, 3)) (ho : 0 ≤ (pc : Int) + o) (hp : ((pc : Int) + o).toNat = pc') (r : Wp l Z R my B ml ret n0 Q h cells slots pc' L S) : Wp l Z R my B ml ret n0 Q h cells slots pc L (.ref a :: S) :=
  Wp.plain (fun K X _ target kt => XT.ifnonnullYes X.here K.1 rfl rfl (hb K.2.1 hd) rfl ho hp kt) r
theorem Wp.ifnonnullN {o : Int} {pc' : Nat} (hd : decode B pc = .ok (.ifnonnull o, 3)) (hp : pc + 3 = pc') (r : Wp l Z R my B ml ret n0 Q h cells slots pc' L S) : Wp l Z R my B ml ret n0 Q h cells slots pc L (.null :: S) := by
  subst hp; exact Wp.plain (fun K X _ target kt => XT.ifnonnullNo X.here K.1 rfl (hb K.2.1 hd) rfl kt) r
theorem Wp.acmpY {cd : ClassFile.ACond} {v w : Value} {o : Int} {pc' : Nat} (hd : decode B pc = .ok (.if_acmp cd o, 3)) (hv : v.isRef = true) (hw : w.isRef = true) (hc : XT.acmp cd v w = true) (ho : 0 ≤ (pc : Int) + o) (hp : ((pc : Int) + o).toNat = pc') (r : Wp l Z R my B ml ret n0 Q h cells slots pc' L S) : Wp l Z R my B ml ret n0 Q h cells slots pc L (w :: v :: S) :=
  Wp.plain (fun K X _ target kt => XT.acmpYes X.here K.1 rfl rfl (hb K.2.1 hd) rfl hv hw hc ho hp kt) r
theorem Wp.acmpN {cd : ClassFile.ACond} {v w : Value} {o : Int} {pc' : Nat} (hd : decode B pc = .ok (.if_acmp cd o, 3)) (hv : v.isRef = true) (hw : w.isRef = true) (hc : XT.acmp cd v w = false) (hp : pc + 3 = pc') (r : Wp l Z R my B ml ret n0 Q h cells slots pc' L S) : Wp l Z R my B ml ret n0 Q h cells slots pc L (w :: v :: S) := by
  subst hp; exact Wp.plain (fun K X _ target kt => XT.acmpNo X.here K.1 rfl (hb K.2.1 hd) rfl hv hw hc kt) r
/-- lookupswitch: where it goes -/
theorem Wp.lsw {dflt o : Int} {pairs : Array (Int × Int)} {len : Nat} {i : Int32} {pc' : Nat} (hd : decode B pc = .ok (.lookupswitch dflt pairs, len)) (hsrt : ∀ (a b a' b' : Int), ((a, b), a', b') ∈ pairs.toList.zip pairs.toList.tail → a < a') (hq : lookupswitch.offset pairs.toList dflt i.toInt = o) (ho : 0 ≤ (pc : Int) + o) (hp : ((pc : Int) + o).toNat = pc') (r : Wp l Z R my B ml ret n0 Q h cells slots pc' L S) : Wp l Z R my B ml ret n0 Q h cells slots pc L (.int i :: S) := by
  subst hp hq
  refine Wp.plain (fun {p e s m args below meth c T locs} K X _ target kt => ?_) r
  have hx := K.1
  have hd' : decode c.code pc = .ok (.lookupswitch dflt pairs, len) := hb K.2.1 hd
  show Steps p.tables e below (T.setTop { method := m, pc := pc, locals := L, stack := .int i :: S, locked := none }) _
  jvm_step X.here [X.here.top, hx, hd', lookupswitch.wp_chain, ho]
  exact ⟨hsrt, kt⟩
/-! returns -/
theorem Wp.ends {v : Option Value} (hc : cells ≤ R.cells) (hs : slots ≤ R.slots) (hq : Q v h) (hv : ret = none → v = none)
    (st : ∀ {p : Program} {e : Env} {s : State} {m : MethodId} {args : Array Value} {below : List Frame} {meth : Method} {c : Code} {T : State} {locs : List Loc}, Cx p s m meth c Z my B ml ret → Stand p l e R s m args below meth c T locs cells slots → ∀ fs, (∀ (f : JFrame) (acts : List Action), f.method = m → f.locked = none → f.entered = [] → (doReturn e (T.setTop f) acts v).1 = T.setFrames fs) → Steps p.tables e below (T.setTop (mkF m pc L S)) (T.setFrames fs)) : Wp l Z R my B ml ret n0 Q h cells slots pc L S := by
  intro p e s m args below meth c T locs K X eT N
  obtain ⟨fs, hr, hrun, hended, hW, hsame⟩ := X.leave (v := v) (fun q => hv (K.2.2.2.2.2.2.1.symm.trans q)) K.2.2.2.2.2.2.2
  refine ⟨_, _, st K X fs hr, hrun, hended, v, locs, rfl, ⟨?_, N⟩, ⟨v, rfl⟩, hW, hsame.mono hc hs⟩
  show Q v T.heap
  rw [eT]; exact hq
theorem Wp.retOut {v : Value} {t : FieldType} {i : Instr} (ht : ret = some t) (hn : narrow t v = v)
    (hi : (i = .ireturn ∧ (t = .int ∨ t = .boolean ∨ t = .byte ∨ t = .char ∨ t = .short) ∧ ∃ z, v = .int z) ∨ (i = .lreturn ∧ t = .long ∧ ∃ z, v = .long z) ∨ (i = .dreturn ∧ t = .double ∧ ∃ z, v = .double z) ∨ (i = .freturn ∧ t = .float ∧ ∃ z, v = .float z) ∨ (i = .areturn ∧ t.isReference = true ∧ v.isRef = true))
    (hd : decode B pc = .ok (i, 1)) (hc : cells ≤ R.cells) (hs : slots ≤ R.slots) (hq : Q (some v) h) : Wp l Z R my B ml ret n0 Q h cells slots pc L (v :: S) :=
  Wp.ends hc hs hq (fun q => by rw [ht] at q; cases q) (fun K X fs hl => RoadKit.retOut X K.1 (K.2.2.2.2.2.2.1.trans ht) hn hi (hb K.2.1 hd) hl)
theorem Wp.retI {z : Int32} (ht : ret = some .int) (hd : decode B pc = .ok (.ireturn, 1)) (hc : cells ≤ R.cells) (hs : slots ≤ R.slots) (hq : Q (some (.int z)) h) : Wp l Z R my B ml ret n0 Q h cells slots pc L (.int z :: S) :=
  Wp.retOut ht rfl (Or.inl ⟨rfl, Or.inl rfl, z, rfl⟩) hd hc hs hq
theorem Wp.retL {z : Int64} (ht : ret = some .long) (hd : decode B pc = .ok (.lreturn, 1)) (hc : cells ≤ R.cells) (hs : slots ≤ R.slots) (hq : Q (some (.long z)) h) : Wp l Z R my B ml ret n0 Q h cells slots pc L (.long z :: S) :=
  Wp.retOut ht rfl (Or.inr (Or.inl ⟨rfl, rfl, z, rfl⟩)) hd hc hs hq
/-- a boolean, byte, char or short, that is one already -/
theorem Wp.retS {z : Int32} {t : FieldType} (ht : ret = some t) (hk : t = .boolean ∨ t = .byte ∨ t = .char ∨ t = .short) (hn : narrow t (.int z) = .int z) (hd : decode B pc = .ok (.ireturn, 1)) (hc : cells ≤ R.cells) (hs : slots ≤ R.slots) (hq : Q (some (.int z)) h) : Wp l Z R my B ml ret n0 Q h cells slots pc L (.int z :: S) :=
  Wp.retOut ht hn (Or.inl ⟨rfl, Or.inr hk, z, rfl⟩) hd hc hs hq
theorem Wp.retA {v : Value} {t : FieldType} (ht : ret = some t) (htr : t.isReference = true) (hv : v.isRef = true) (hn : narrow t v = v) (hd : decode B pc = .ok (.areturn, 1)) (hc : cells ≤ R.cells) (hs : slots ≤ R.slots) (hq : Q (some v) h) : Wp l Z R my B ml ret n0 Q h cells slots pc L (v :: S) :=
  Wp.retOut ht hn (Or.inr (Or.inr (Or.inr (Or.inr ⟨rfl, htr, hv⟩)))) hd hc hs hq
theorem Wp.ret0 (ht : ret = none) (hd : decode B pc = .ok (.return_, 1)) (hc : cells ≤ R.cells) (hs : slots ≤ R.slots) (hq : Q none h) : Wp l Z R my B ml ret n0 Q h cells slots pc L [] :=
  Wp.ends hc hs hq (fun _ => rfl) (fun K X fs hl => X.returnOut K.1 (K.2.2.2.2.2.2.1.trans ht) (hb K.2.1 hd) hl)
/-! calls -/
theorem Wp.callS {yy : MethodName} {B' : ByteArray} {ml' : Nat} {ret' : Option FieldType} {rm : Room} {Q' : Option Value → Heap → Prop} {index pc' : Nat} {argsL S0 : List Value} {as : Array Value} (M : Met l Z yy B' ml' ret' rm as h n0 Q')
    (wl : (Jvm.Cond.methodLink my.cls index yy).before a0 Z = true) (ws : (Jvm.Cond.static yy).before a0 Z = true) (wi : (Jvm.Cond.initialized yy.cls).before a0 Z = true) (wc : (Jvm.Cond.code yy B' ml' ret').before a0 Z = true)
    (hy : yy.cls ≠ "java/lang/invoke/MethodHandle" ∧ yy.cls ≠ "java/lang/invoke/VarHandle") {W : Nat} (hsz : L.size = ml) (hlen : ∀ sig, parseMethodDescriptor yy.desc = some sig → argsL.length = sig.parameters.length) (hst : S0 = argsL.reverse ++ S) (has : argsL.toArray = as) (hW : (S.map fun v => v.category).sum ≤ W)
    (hf : rm.frames + 1 ≤ R.frames) (hl : W + (ml' + 11) + rm.locals ≤ R.locals) (hc : cells + rm.cells ≤ R.cells) (hs : slots + rm.slots ≤ R.slots) (hd : decode B pc = .ok (.invokestatic index, 3)) (hp : pc + 3 = pc')
    (r : ∀ v h', Q' v h' → Wp l Z R my B ml ret n0 Q h' (cells + rm.cells) (slots + rm.slots) pc' L (v.toList ++ S)) : Wp l Z R my B ml ret n0 Q h cells slots pc L S0 := by
  intro p e s m args below meth c T locs K X eT N
  subst hp hst
  have hZ := K.2.2.2.1
  obtain ⟨v, vm₁, ⟨T', L', k', n'⟩, -, X', ⟨Lc, hQ, l', y', z'⟩, st⟩ := Jvm.LawKit.callS X K.1 (y := yy) K.2.2.2.2.1 (mvT hZ wl) (mvT hZ ws) (mvT hZ wi) (mvT hZ wc) hy (backOf (W := W) (Q := fun v h L => Q' v h ∧ Fr n0 L) (M []) hZ wc wi hf hl) (g := mkF m pc L (argsL.reverse ++ S)) rfl (hsz.trans K.2.2.1.symm) (argsL := argsL) (rest := S) hlen rfl (by show 2 * 0 + _ ≤ _; rw [Nat.mul_zero, Nat.zero_add]; exact hW) (hb K.2.1 hd) (fun _ _ => ⟨has, eT, hc, hs⟩)
  dsimp only [Pt.U, Pt.locs, Pt.cells, Pt.slots] at X' l' y' z' st hQ
  subst l' y' z'
  obtain ⟨s₂, o, k1, k2⟩ := r v _ hQ.1 p e s m args below meth c T' _ K X' rfl (Fr.app N hQ.2)
  exact ⟨s₂, o, st _ k1, k2⟩
theorem Wp.callV {yy zz : MethodName} {B' : ByteArray} {ml' : Nat} {ret' : Option FieldType} {rm : Room} {Q' : Option Value → Heap → Prop} {index pc' : Nat} {argsL S0 : List Value} {as : Array Value} {a : Addr} {C : String} (M : Met l Z zz B' ml' ret' rm as h n0 Q') (E : Exa Z h a C)
    (wl : (Jvm.Cond.methodLink my.cls index yy).before a0 Z = true) (wd : (Jvm.Cond.declares yy).before a0 Z = true) (wse : (Jvm.Cond.selects C yy zz).before a0 Z = true) (wm : (Jvm.Cond.instanceMethod zz).before a0 Z = true) (wi : (Jvm.Cond.initialized zz.cls).before a0 Z = true) (wc : (Jvm.Cond.code zz B' ml' ret').before a0 Z = true)
    (nf : ∀ s : State, Z.Warmed39 s.vm → NotFace s yy)
    (hy : yy.cls ≠ "java/lang/invoke/MethodHandle" ∧ yy.cls ≠ "java/lang/invoke/VarHandle") {W : Nat} (hsz : L.size = ml) (hlen : ∀ sig, parseMethodDescriptor yy.desc = some sig → argsL.length = sig.parameters.length) (hst : S0 = argsL.reverse ++ .ref a :: S) (has : (.ref a :: argsL).toArray = as) (hW : (S.map fun v => v.category).sum ≤ W)
    (hf : rm.frames + 1 ≤ R.frames) (hl : W + (ml' + 11) + rm.locals ≤ R.locals) (hc : cells + rm.cells ≤ R.cells) (hs : slots + rm.slots ≤ R.slots) (hd : decode B pc = .ok (.invokevirtual index, 3)) (hp : pc + 3 = pc')
    (r : ∀ v h', Q' v h' → Wp l Z R my B ml ret n0 Q h' (cells + rm.cells) (slots + rm.slots) pc' L (v.toList ++ S)) : Wp l Z R my B ml ret n0 Q h cells slots pc L S0 := by
  intro p e s m args below meth c T locs K X eT N
  subst hp hst
  have hZ := K.2.2.2.1
  obtain ⟨cB, kB, q1, -, q3⟩ := isOf hZ eT E
  obtain ⟨v, vm₁, ⟨T', L', k', n'⟩, -, X', ⟨Lc, hQ, l', y', z'⟩, st⟩ := X.virtualBack K.1 (y := yy) (z := zz) K.2.2.2.2.1 (mvT hZ wl) (mvT hZ wd) (nf s hZ) (mvT hZ wse) (mvT hZ wm) hy (backOf (W := W) (Q := fun v h L => Q' v h ∧ Fr n0 L) (M []) hZ wc wi hf hl) q1 q3 (g := mkF m pc L (argsL.reverse ++ .ref a :: S)) rfl (hsz.trans K.2.2.1.symm) (Steps.refl _) (argsL := argsL) (rest := S) hlen rfl (by show 2 * 0 + _ ≤ _; rw [Nat.mul_zero, Nat.zero_add]; exact hW) (hb K.2.1 hd) (fun _ _ => ⟨has, eT, hc, hs⟩)
  dsimp only [Pt.U, Pt.locs, Pt.cells, Pt.slots] at X' l' y' z' st hQ
  subst l' y' z'
  obtain ⟨s₂, o, k1, k2⟩ := r v _ hQ.1 p e s m args below meth c T' _ K X' rfl (Fr.app N hQ.2)
  exact ⟨s₂, o, st.trans k1, k2⟩
theorem nfS {yy : MethodName} {C : String} (w : (Jvm.Cond.selects C yy yy).before a0 Z = true) : ∀ s : State, Z.Warmed39 s.vm → NotFace s yy := fun s hZ => notFace_of_selects (args := #[]) (mvT hZ w)
theorem Wp.callI {yy : MethodName} {B' : ByteArray} {ml' : Nat} {rm : Room} {Q' : Option Value → Heap → Prop} {index pc' : Nat} {argsL S0 : List Value} {as : Array Value} {a : Addr} (M : Met l Z yy B' ml' none rm as h n0 Q') (hin : yy.name = "<init>")
    (wl : (Jvm.Cond.methodLink my.cls index yy).before a0 Z = true) (wm : (Jvm.Cond.instanceMethod yy).before a0 Z = true) (wi : (Jvm.Cond.initialized yy.cls).before a0 Z = true) (wc : (Jvm.Cond.code yy B' ml' none).before a0 Z = true)
    (hy : yy.cls ≠ "java/lang/invoke/MethodHandle" ∧ yy.cls ≠ "java/lang/invoke/VarHandle") {W : Nat} (hsz : L.size = ml) (hlen : ∀ sig, parseMethodDescriptor yy.desc = some sig → argsL.length = sig.parameters.length) (hst : S0 = argsL.reverse ++ .ref a :: S) (has : (.ref a :: argsL).toArray = as) (hW : (S.map fun v => v.category).sum ≤ W)
    (hf : rm.frames + 1 ≤ R.frames) (hl : W + (ml' + 11) + rm.locals ≤ R.locals) (hc : cells + rm.cells ≤ R.cells) (hs : slots + rm.slots ≤ R.slots) (hd : decode B pc = .ok (.invokespecial index, 3)) (hp : pc + 3 = pc')
    (r : ∀ v h', Q' v h' → Wp l Z R my B ml ret n0 Q h' (cells + rm.cells) (slots + rm.slots) pc' L (v.toList ++ S)) : Wp l Z R my B ml ret n0 Q h cells slots pc L S0 := by
  intro p e s m args below meth c T locs K X eT N
  subst hp hst
  have hZ := K.2.2.2.1
  obtain ⟨v, vm₁, ⟨T', L', k', n'⟩, -, X', ⟨Lc, hQ, l', y', z'⟩, st⟩ := X.specialBack K.1 (y := yy) hin K.2.2.2.2.1 (mvT hZ wl) (mvT hZ wm) (mvT hZ wc) hy (backOf (W := W) (Q := fun v h L => Q' v h ∧ Fr n0 L) (M []) hZ wc wi hf hl) (g := mkF m pc L (argsL.reverse ++ .ref a :: S)) rfl (hsz.trans K.2.2.1.symm) (Steps.refl _) (a := a) (argsL := argsL) (rest := S) hlen rfl (by show 2 * 0 + _ ≤ _; rw [Nat.mul_zero, Nat.zero_add]; exact hW) (hb K.2.1 hd) (fun _ _ => ⟨has, eT, hc, hs⟩)
  dsimp only [Pt.U, Pt.locs, Pt.cells, Pt.slots] at X' l' y' z' st hQ
  subst l' y' z'
  obtain ⟨s₂, o, k1, k2⟩ := r v _ hQ.1 p e s m args below meth c T' _ K X' rfl (Fr.app N hQ.2)
  exact ⟨s₂, o, st.trans k1, k2⟩
theorem Wp.initO {a : Addr} {index pc' : Nat} (wl : (Jvm.Cond.methodLink my.cls index Lib.objectInit).before a0 Z = true) (wm : (Jvm.Cond.instanceMethod Lib.objectInit).before a0 Z = true) (wc : (Jvm.Cond.code Lib.objectInit ⟨#[0xb1]⟩ 1 none).before a0 Z = true) {W : Nat} (hsz : L.size = ml) (hW : (S.map fun v => v.category).sum ≤ W) (hf : 1 ≤ R.frames) (hl : W + 12 ≤ R.locals)
    (hd : decode B pc = .ok (.invokespecial index, 3)) (hp : pc + 3 = pc') (r : Wp l Z R my B ml ret n0 Q h cells slots pc' L S) : Wp l Z R my B ml ret n0 Q h cells slots pc L (.ref a :: S) := by
  subst hp
  refine Wp.moved (fun {p e s m args below meth c T locs} K X eT => ?_) r
  exact RoadKit.initO X K.1 K.2.2.2.1 K.2.2.2.2.1 wl wm wc eT (g := mkF m pc L (.ref a :: S)) rfl (hsz.trans K.2.2.1.symm) rfl (hb K.2.1 hd) hf (by show 2 * 0 + _ ≤ _; rw [Nat.mul_zero, Nat.zero_add]; exact hW) hl
end Base
/-! what is known of the heap: a list of places, no two the same, all new, with what each holds -/
def Hp (h : Heap) (n0 : Nat) (Ls : List (Addr × (Cell → Prop))) : Prop := n0 ≤ h.size ∧ Ls.Pairwise (fun x y => x.1 ≠ y.1) ∧ ∀ q ∈ Ls, n0 ≤ q.1 ∧ ∃ c, h[q.1]? = some c ∧ q.2 c
/-- an array: its type, its kind, all its values -/
def ArC (Z : State) (k : ClassId) (ty : FieldType) (vs : List Value) (c : Cell) : Prop := Z.isArrayOf c ty ∧ c.vm ≠ .unknown ∧ c.cls = k ∧ c.slots.toList = vs ∧ ∀ v ∈ vs, fits ty v = true
def FdC (Z : State) (C : String) (f : String × String × Value) (c : Cell) : Prop := ∃ (cf : ClassId) (k : Class) (i : Nat) (fd : Field), Z.fieldFound? C f.1 f.2.1 = some (cf, k, i, fd) ∧ fd.isStatic = false ∧ c.vm ≠ .unknown ∧ c.vm.isStatics = false ∧ Z.vm.assignable c.cls cf = true ∧ c.slots[fd.slot]? = some f.2.2
/-- an object: its type, the fields that are told -/
def ObC (Z : State) (a0 : Array Value) (C : String) (fs : List (String × String × Value)) (c : Cell) : Prop :=
  (∃ k : Class, Z.vm.findClass C = some c.cls ∧ Z.vm.classes[c.cls]? = some k ∧ c.vm.isStatics = false ∧ (k.kind = .ordinary → c.slots.size = k.instanceTypes.size)) ∧ ∀ f ∈ fs, FdC Z C f c ∧ Laid Z a0 C C f.1 f.2.1 ∧ ∃ t, parseFieldDescriptor f.2.1 = some t
section Heap
variable {l : Launch} {Z : State} {R : Room} {my : MethodName} {B : ByteArray} {ml : Nat} {ret : Option FieldType} {n0 : Nat} {Q : Option Value → Heap → Prop} {h h' : Heap} {cells slots pc : Nat} {L : Array Slot} {S : List Value} {a0 : Array Value} {a : Addr} {P P' : Cell → Prop} {Ls Ls' LA LB : List (Addr × (Cell → Prop))} {k : ClassId} {ty : FieldType} {vs : List Value} {C n d : String} {v : Value} {fs F1 F2 : List (String × String × Value)}
theorem Hp.nil (q : n0 ≤ h.size) : Hp h n0 [] := ⟨q, List.Pairwise.nil, fun _ z => nomatch z⟩
theorem Hp.at (O : Hp h n0 Ls) {i : Nat} (hi : Ls[i]? = some (a, P)) : n0 ≤ a ∧ ∃ c, h[a]? = some c ∧ P c := O.2.2 _ (List.mem_of_getElem? hi)
theorem Hp.perm (O : Hp h n0 Ls) (q : Ls.Perm Ls') : Hp h n0 Ls' :=
  ⟨O.1, (q.pairwise_iff (fun {x y} (hh : x.1 ≠ y.1) => Ne.symm hh)).mp O.2.1, fun z hz => O.2.2 z (q.mem_iff.mpr hz)⟩
theorem Hp.front {x : Addr × (Cell → Prop)} (O : Hp h n0 (LA ++ x :: LB)) : Hp h n0 (x :: (LA ++ LB)) := O.perm List.perm_middle
theorem Hp.back {x : Addr × (Cell → Prop)} (O : Hp h n0 (x :: (LA ++ LB))) : Hp h n0 (LA ++ x :: LB) := O.perm List.perm_middle.symm
theorem Hp.drop {x : Addr × (Cell → Prop)} (O : Hp h n0 (x :: Ls)) : Hp h n0 Ls := ⟨O.1, (List.pairwise_cons.mp O.2.1).2, fun z hz => O.2.2 z (List.mem_cons_of_mem _ hz)⟩
theorem Hp.weak (O : Hp h n0 (LA ++ (a, P) :: LB)) (hP : ∀ c, P c → P' c) : Hp h n0 (LA ++ (a, P') :: LB) := by
  obtain ⟨h1, h2, h3⟩ := O
  refine ⟨h1, ?_, fun q hq => ?_⟩
  · rw [List.pairwise_append, List.pairwise_cons] at h2 ⊢
    refine ⟨h2.1, h2.2.1, fun x hx z hz => ?_⟩
    rcases List.mem_cons.mp hz with rfl | hz
    · exact h2.2.2 x hx (a, P) (List.mem_cons_self ..)
    · exact h2.2.2 x hx z (List.mem_cons_of_mem _ hz)
  · rcases List.mem_append.mp hq with hq | hq
    · exact h3 q (List.mem_append_left _ hq)
    · rcases List.mem_cons.mp hq with rfl | hq
      · obtain ⟨u1, c, u2, u3⟩ := h3 (a, P) (List.mem_append_right _ (List.mem_cons_self ..))
        exact ⟨u1, c, u2, hP c u3⟩
      · exact h3 q (List.mem_append_right _ (List.mem_cons_of_mem _ hq))
theorem Hp.wr {sl : Nat} (O : Hp h n0 (LA ++ (a, P) :: LB)) (W : Wr h h' a sl v) (hP : ∀ c, P c → P' (c.setSlot sl v)) : Hp h' n0 (LA ++ (a, P') :: LB) := by
  obtain ⟨h1, h2, h3⟩ := O
  have h2' := h2
  rw [List.pairwise_append, List.pairwise_cons] at h2'
  refine ⟨by rw [W.size]; exact h1, ?_, fun q hq => ?_⟩
  · rw [List.pairwise_append, List.pairwise_cons]
    refine ⟨h2'.1, h2'.2.1, fun x hx z hz => ?_⟩
    rcases List.mem_cons.mp hz with rfl | hz
    · exact h2'.2.2 x hx (a, P) (List.mem_cons_self ..)
    · exact h2'.2.2 x hx z (List.mem_cons_of_mem _ hz)
  · rcases List.mem_append.mp hq with hq | hq
    · obtain ⟨u1, c, u2, u3⟩ := h3 q (List.mem_append_left _ hq)
      obtain ⟨c', w1, -, -, -, w5, -⟩ := wr_at W u2
      have ne : q.1 ≠ a := h2'.2.2 q hq (a, P) (List.mem_cons_self ..)
      exact ⟨u1, c', w1, by rw [w5 ne]; exact u3⟩
    · rcases List.mem_cons.mp hq with rfl | hq
      · obtain ⟨u1, c, u2, u3⟩ := h3 (a, P) (List.mem_append_right _ (List.mem_cons_self ..))
        obtain ⟨c', w1, -, -, -, -, -, w7⟩ := wr_at W u2
        exact ⟨u1, c', w1, by rw [(w7 rfl).1]; exact hP c u3⟩
      · obtain ⟨u1, c, u2, u3⟩ := h3 q (List.mem_append_right _ (List.mem_cons_of_mem _ hq))
        obtain ⟨c', w1, -, -, -, w5, -⟩ := wr_at W u2
        have ne : q.1 ≠ a := fun e => h2'.2.1.1 q hq e.symm
        exact ⟨u1, c', w1, by rw [w5 ne]; exact u3⟩
theorem Hp.new {c : Cell} (O : Hp h n0 Ls) (E : Ext h h') (hc : h'[h.size]? = some c) (hP : P c) : Hp h' n0 ((h.size, P) :: Ls) := by
  obtain ⟨h1, h2, h3⟩ := O
  refine ⟨Nat.le_trans h1 E.1, List.pairwise_cons.mpr ⟨fun q hq e => ?_, h2⟩, fun q hq => ?_⟩
  · obtain ⟨-, c', u2, -⟩ := h3 q hq
    have := (Array.getElem?_eq_some_iff.mp u2).1
    have e' : h.size = q.1 := e
    omega
  · rcases List.mem_cons.mp hq with rfl | hq
    · exact ⟨h1, c, hc, hP⟩
    · obtain ⟨u1, c', u2, u3⟩ := h3 q hq
      exact ⟨u1, c', E.2 _ _ u2, u3⟩
theorem Hp.ne {i j : Nat} {b : Addr} (O : Hp h n0 Ls) (hi : Ls[i]? = some (a, P)) (hj : Ls[j]? = some (b, P')) (hij : i ≠ j) : a ≠ b := by
  obtain ⟨i1, e1⟩ := List.getElem?_eq_some_iff.mp hi
  obtain ⟨j1, e2⟩ := List.getElem?_eq_some_iff.mp hj
  have q := List.pairwise_iff_getElem.mp O.2.1
  rcases Nat.lt_or_gt_of_ne hij with u | u
  · have := q i j i1 j1 u
    rw [e1, e2] at this; exact this
  · have := q j i j1 i1 u
    rw [e1, e2] at this; exact Ne.symm this
theorem ArC.arr {c : Cell} (H : ArC Z k ty vs c) (hc : h[a]? = some c) : Arr Z h a c ty := ⟨hc, H.1, H.2.1⟩
theorem ArC.size {c : Cell} (H : ArC Z k ty vs c) : c.slots.size = vs.length := by rw [← H.2.2.2.1]; simp
theorem ArC.get {c : Cell} (H : ArC Z k ty vs c) (j : Nat) : c.slots[j]? = vs[j]? := by rw [← H.2.2.2.1]; simp
theorem ArC.set {c : Cell} (H : ArC Z k ty vs c) (j : Nat) (hv : fits ty v = true) : ArC Z k ty (vs.set j v) (c.setSlot j v) := by
  refine ⟨H.1, H.2.1, H.2.2.1, ?_, fun w hw => ?_⟩
  · rw [← H.2.2.2.1]; simp [Cell.setSlot]
  · rcases List.mem_or_eq_of_mem_set hw with q | rfl
    · exact H.2.2.2.2 w q
    · exact hv
theorem in_of {c : Cell} {j : Int32} {jn : Nat} (H : ArC Z k ty vs c) (hj : ¬ j < 0) (hjn : j.toNatClampNeg = jn) (hl : jn < vs.length) : ¬ (j < 0 ∨ c.slots.size ≤ j.toNatClampNeg) := by
  rw [H.size, hjn]; exact fun q => q.elim hj (fun q => by omega)
theorem default_fits (ty : FieldType) : fits ty (defaultValue ty) = true := by cases ty <;> rfl
/-! arrays -/
theorem Wp.newarr {aty : ArrayType} {nn : Int32} {m pc' cap : Nat} (O : Hp h n0 Ls) (w : (Jvm.Cond.arrayClass (newarray.typeOf aty)).before a0 Z = true) (hd : decode B pc = .ok (.newarray aty, 2)) (hn : ¬ nn < 0) (hm : nn.toNatClampNeg = m) (hcap : m ≤ cap) (hb' : cap * 8 ≤ 536870912) (hc : cells + 1 ≤ R.cells) (hl : slots + cap ≤ R.slots) (hp : pc + 2 = pc')
    (r : ∀ h' a k, Hp h' n0 ((a, ArC Z k (newarray.typeOf aty) (List.replicate m (defaultValue (newarray.typeOf aty)))) :: Ls) → Wp l Z R my B ml ret n0 Q h' (cells + 1) (slots + cap) pc' L (.ref a :: S)) : Wp l Z R my B ml ret n0 Q h cells slots pc L (.int nn :: S) := by
  intro p e s m' args below meth c T locs K X eT N
  subst hp hm
  obtain ⟨T', h', cA, X', e', E, A, st⟩ := RoadKit.newP X K.1 K.2.2.2.1 w eT (g := mkF m' pc L (.int nn :: S)) rfl (hb K.2.1 hd) rfl hn hcap hb' hc hl
  have O' : Hp h' n0 ((h.size, ArC Z cA (newarray.typeOf aty) (List.replicate nn.toNatClampNeg (defaultValue (newarray.typeOf aty)))) :: Ls) := O.new E A.1 ⟨A.2.1, A.2.2, rfl, by simp [newA], fun v hv => by rw [List.eq_of_mem_replicate hv]; exact default_fits _⟩
  obtain ⟨s₂, o, k1, k2⟩ := r h' h.size cA O' p e s m' args below meth c T' locs K X' e' N
  exact ⟨s₂, o, st _ k1, k2⟩
theorem Wp.arrlen {i pc' : Nat} {z : Int32} (O : Hp h n0 Ls) (hi : Ls[i]? = some (a, ArC Z k ty vs)) (hd : decode B pc = .ok (.arraylength, 1)) (hz : vs.length.toInt32 = z) (hp : pc + 1 = pc') (r : Wp l Z R my B ml ret n0 Q h cells slots pc' L (.int z :: S)) : Wp l Z R my B ml ret n0 Q h cells slots pc L (.ref a :: S) := by
  subst hp hz
  obtain ⟨-, c, hc, H⟩ := O.at hi
  refine Wp.plain (fun {p e s m args below meth c' T locs} K X eT target kt => ?_) r
  refine X.arraylength K.1 (cell := c) (by rw [eT]; exact hc) (State.isArrayOf_alike K.2.2.2.1.alike H.1) (g := mkF m pc L (.ref a :: S)) rfl (rest := S) rfl (hb K.2.1 hd) target ?_
  rw [H.size]; exact kt
theorem Wp.iaload {i pc' jn : Nat} {j : Int32} (O : Hp h n0 Ls) (hi : Ls[i]? = some (a, ArC Z k .int vs)) (hd : decode B pc = .ok (.iaload, 1)) (hj : ¬ j < 0) (hjn : j.toNatClampNeg = jn) (hv : vs[jn]? = some v) (hp : pc + 1 = pc') (r : Wp l Z R my B ml ret n0 Q h cells slots pc' L (v :: S)) : Wp l Z R my B ml ret n0 Q h cells slots pc L (.int j :: .ref a :: S) := by
  subst hp
  obtain ⟨-, c, hc, H⟩ := O.at hi
  have hl : jn < vs.length := (List.getElem?_eq_some_iff.mp hv).1
  refine Wp.plain (fun {p e s m args below meth c' T locs} K X eT target kt => ?_) r
  exact X.iaload K.1 (cell := c) (j := j) (v := v) (by rw [eT]; exact hc) (State.isArrayOf_alike K.2.2.2.1.alike H.1) H.2.1 (in_of H hj hjn hl) (by rw [H.get, hjn]; exact hv) (g := mkF m pc L (.int j :: .ref a :: S)) rfl rfl (hb K.2.1 hd) target kt
theorem Wp.laload {i pc' jn : Nat} {j : Int32} (O : Hp h n0 Ls) (hi : Ls[i]? = some (a, ArC Z k .long vs)) (hd : decode B pc = .ok (.laload, 1)) (hj : ¬ j < 0) (hjn : j.toNatClampNeg = jn) (hv : vs[jn]? = some v) (hp : pc + 1 = pc') (r : Wp l Z R my B ml ret n0 Q h cells slots pc' L (v :: S)) : Wp l Z R my B ml ret n0 Q h cells slots pc L (.int j :: .ref a :: S) := by
  subst hp
  obtain ⟨-, c, hc, H⟩ := O.at hi
  have hl : jn < vs.length := (List.getElem?_eq_some_iff.mp hv).1
  refine Wp.plain (fun {p e s m args below meth c' T locs} K X eT target kt => ?_) r
  exact X.laload K.1 (cell := c) (j := j) (v := v) (by rw [eT]; exact hc) (State.isArrayOf_alike K.2.2.2.1.alike H.1) H.2.1 (in_of H hj hjn hl) (by rw [H.get, hjn]; exact hv) (g := mkF m pc L (.int j :: .ref a :: S)) rfl rfl (hb K.2.1 hd) target kt
theorem Wp.caload {i pc' jn : Nat} {j : Int32} (O : Hp h n0 Ls) (hi : Ls[i]? = some (a, ArC Z k .char vs)) (hd : decode B pc = .ok (.caload, 1)) (hj : ¬ j < 0) (hjn : j.toNatClampNeg = jn) (hv : vs[jn]? = some v) (hp : pc + 1 = pc') (r : Wp l Z R my B ml ret n0 Q h cells slots pc' L (v :: S)) : Wp l Z R my B ml ret n0 Q h cells slots pc L (.int j :: .ref a :: S) := by
  subst hp
  obtain ⟨-, c, hc, H⟩ := O.at hi
  have hl : jn < vs.length := (List.getElem?_eq_some_iff.mp hv).1
  refine Wp.plain (fun {p e s m args below meth c' T locs} K X eT target kt => ?_) r
  exact X.caload K.1 (cell := c) (j := j) (v := v) (by rw [eT]; exact hc) (State.isArrayOf_alike K.2.2.2.1.alike H.1) H.2.1 (in_of H hj hjn hl) (by rw [H.get, hjn]; exact hv) (g := mkF m pc L (.int j :: .ref a :: S)) rfl rfl (hb K.2.1 hd) target kt
theorem Wp.baload {i pc' jn : Nat} {j : Int32} (O : Hp h n0 Ls) (hi : Ls[i]? = some (a, ArC Z k .byte vs)) (hd : decode B pc = .ok (.baload, 1)) (hj : ¬ j < 0) (hjn : j.toNatClampNeg = jn) (hv : vs[jn]? = some v) (hp : pc + 1 = pc') (r : Wp l Z R my B ml ret n0 Q h cells slots pc' L (v :: S)) : Wp l Z R my B ml ret n0 Q h cells slots pc L (.int j :: .ref a :: S) := by
  subst hp
  obtain ⟨-, c, hc, H⟩ := O.at hi
  have hl : jn < vs.length := (List.getElem?_eq_some_iff.mp hv).1
  refine Wp.plain (fun {p e s m args below meth c' T locs} K X eT target kt => ?_) r
  exact X.baloadBytes K.1 (cell := c) (j := j) (v := v) (by rw [eT]; exact hc) (State.isArrayOf_alike K.2.2.2.1.alike H.1) H.2.1 (in_of H hj hjn hl) (by rw [H.get, hjn]; exact hv) (g := mkF m pc L (.int j :: .ref a :: S)) rfl rfl (hb K.2.1 hd) target kt
theorem Wp.iastore {pc' jn : Nat} {j : Int32} {x : Int32} (O : Hp h n0 (LA ++ (a, ArC Z k .int vs) :: LB)) (hd : decode B pc = .ok (.iastore, 1)) (hj : ¬ j < 0) (hjn : j.toNatClampNeg = jn) (hl : jn < vs.length) (hp : pc + 1 = pc') (r : ∀ h', Hp h' n0 (LA ++ (a, ArC Z k .int (vs.set jn (.int x))) :: LB) → Wp l Z R my B ml ret n0 Q h' cells slots pc' L S) : Wp l Z R my B ml ret n0 Q h cells slots pc L (.int x :: .int j :: .ref a :: S) := by
  intro p e s m args below meth c' T locs K X eT N
  subst hp hjn
  obtain ⟨g0, c, hc, H⟩ := O.2.2 _ (List.mem_append_right _ (List.mem_cons_self ..))
  obtain ⟨T', h', X', e', W, st⟩ := RoadKit.stI X K.1 K.2.2.2.1 eT (H.arr hc) (j := j) (in_of H hj rfl hl) (g := mkF m pc L (.int x :: .int j :: .ref a :: S)) rfl rfl (hb K.2.1 hd)
  have O' := O.wr W (P' := ArC Z k .int (vs.set j.toNatClampNeg (.int x))) (fun c0 H0 => H0.set _ (rfl))
  obtain ⟨s₂, o, k1, k2⟩ := r h' O' p e s m args below meth c' T' _ K X' e' (Fr.snoc X' N g0)
  exact ⟨s₂, o, st _ k1, k2⟩
theorem Wp.lastore {pc' jn : Nat} {j : Int32} {x : Int64} (O : Hp h n0 (LA ++ (a, ArC Z k .long vs) :: LB)) (hd : decode B pc = .ok (.lastore, 1)) (hj : ¬ j < 0) (hjn : j.toNatClampNeg = jn) (hl : jn < vs.length) (hp : pc + 1 = pc') (r : ∀ h', Hp h' n0 (LA ++ (a, ArC Z k .long (vs.set jn (.long x))) :: LB) → Wp l Z R my B ml ret n0 Q h' cells slots pc' L S) : Wp l Z R my B ml ret n0 Q h cells slots pc L (.long x :: .int j :: .ref a :: S) := by
  intro p e s m args below meth c' T locs K X eT N
  subst hp hjn
  obtain ⟨g0, c, hc, H⟩ := O.2.2 _ (List.mem_append_right _ (List.mem_cons_self ..))
  obtain ⟨T', h', X', e', W, st⟩ := RoadKit.stJ X K.1 K.2.2.2.1 eT (H.arr hc) (j := j) (in_of H hj rfl hl) (g := mkF m pc L (.long x :: .int j :: .ref a :: S)) rfl rfl (hb K.2.1 hd)
  have O' := O.wr W (P' := ArC Z k .long (vs.set j.toNatClampNeg (.long x))) (fun c0 H0 => H0.set _ (rfl))
  obtain ⟨s₂, o, k1, k2⟩ := r h' O' p e s m args below meth c' T' _ K X' e' (Fr.snoc X' N g0)
  exact ⟨s₂, o, st _ k1, k2⟩
theorem Wp.castore {pc' jn : Nat} {j : Int32} {x : Int32} (O : Hp h n0 (LA ++ (a, ArC Z k .char vs) :: LB)) (hd : decode B pc = .ok (.castore, 1)) (hj : ¬ j < 0) (hjn : j.toNatClampNeg = jn) (hl : jn < vs.length) (hp : pc + 1 = pc') (r : ∀ h', Hp h' n0 (LA ++ (a, ArC Z k .char (vs.set jn (.int (nar .char x)))) :: LB) → Wp l Z R my B ml ret n0 Q h' cells slots pc' L S) : Wp l Z R my B ml ret n0 Q h cells slots pc L (.int x :: .int j :: .ref a :: S) := by
  intro p e s m args below meth c' T locs K X eT N
  subst hp hjn
  obtain ⟨g0, c, hc, H⟩ := O.2.2 _ (List.mem_append_right _ (List.mem_cons_self ..))
  obtain ⟨T', h', X', e', W, st⟩ := RoadKit.stC X K.1 K.2.2.2.1 eT (H.arr hc) (j := j) (in_of H hj rfl hl) (g := mkF m pc L (.int x :: .int j :: .ref a :: S)) rfl rfl (hb K.2.1 hd)
  have O' := O.wr W (P' := ArC Z k .char (vs.set j.toNatClampNeg (.int (nar .char x)))) (fun c0 H0 => H0.set _ (fits_nar_char x))
  obtain ⟨s₂, o, k1, k2⟩ := r h' O' p e s m args below meth c' T' _ K X' e' (Fr.snoc X' N g0)
  exact ⟨s₂, o, st _ k1, k2⟩
theorem Wp.bastore {pc' jn : Nat} {j : Int32} {x : Int32} (O : Hp h n0 (LA ++ (a, ArC Z k .byte vs) :: LB)) (hd : decode B pc = .ok (.bastore, 1)) (hj : ¬ j < 0) (hjn : j.toNatClampNeg = jn) (hl : jn < vs.length) (hp : pc + 1 = pc') (r : ∀ h', Hp h' n0 (LA ++ (a, ArC Z k .byte (vs.set jn (.int (nar .byte x)))) :: LB) → Wp l Z R my B ml ret n0 Q h' cells slots pc' L S) : Wp l Z R my B ml ret n0 Q h cells slots pc L (.int x :: .int j :: .ref a :: S) := by
  intro p e s m args below meth c' T locs K X eT N
  subst hp hjn
  obtain ⟨g0, c, hc, H⟩ := O.2.2 _ (List.mem_append_right _ (List.mem_cons_self ..))
  obtain ⟨T', h', X', e', W, st⟩ := RoadKit.stB X K.1 K.2.2.2.1 eT (H.arr hc) (j := j) (in_of H hj rfl hl) (g := mkF m pc L (.int x :: .int j :: .ref a :: S)) rfl rfl (hb K.2.1 hd)
  have O' := O.wr W (P' := ArC Z k .byte (vs.set j.toNatClampNeg (.int (nar .byte x)))) (fun c0 H0 => H0.set _ (fits_nar_byte x))
  obtain ⟨s₂, o, k1, k2⟩ := r h' O' p e s m args below meth c' T' _ K X' e' (Fr.snoc X' N g0)
  exact ⟨s₂, o, st _ k1, k2⟩
/-! objects -/
theorem FdC.fld {f : String × String × Value} {c : Cell} (F : FdC Z C f c) (hc : h[a]? = some c) : Fld Z h a C f.1 f.2.1 f.2.2 := by
  obtain ⟨cf, k, i, fd, h1, h2, h3, h4, h5, h6⟩ := F
  exact ⟨c, cf, k, i, fd, hc, h1, h2, h3, h4, h5, h6⟩
theorem ObC.exa {c : Cell} (H : ObC Z a0 C fs c) (hc : h[a]? = some c) : Exa Z h a C := by
  obtain ⟨⟨k, h1, h2, h3, h4⟩, -⟩ := H
  exact ⟨c, k, hc, h1, h2, h3, h4⟩
theorem Hp.exa {i : Nat} (O : Hp h n0 Ls) (hi : Ls[i]? = some (a, ObC Z a0 C fs)) : Exa Z h a C := by
  obtain ⟨-, c, hc, H⟩ := O.at hi
  exact H.exa hc
theorem Wp.newO {index nn pc' : Nat} (O : Hp h n0 Ls) (w : (Jvm.Cond.classLink my.cls index C).before a0 Z = true) (wi : (Jvm.Cond.instantiable C nn).before a0 Z = true) (wz : (Jvm.Cond.initialized C).before a0 Z = true) (fs : List (String × String × Value)) (hfs : ∀ f ∈ fs, Laid Z a0 C C f.1 f.2.1 ∧ ∃ t, parseFieldDescriptor f.2.1 = some t ∧ defaultValue t = f.2.2)
    (hd : decode B pc = .ok (.new index, 3)) (hc : cells + 1 ≤ R.cells) (hl : slots + nn ≤ R.slots) (hp : pc + 3 = pc') (r : ∀ h' a, Hp h' n0 ((a, ObC Z a0 C fs) :: Ls) → Wp l Z R my B ml ret n0 Q h' (cells + 1) (slots + nn) pc' L (.ref a :: S)) : Wp l Z R my B ml ret n0 Q h cells slots pc L S := by
  intro p e s m args below meth c' T locs K X eT N
  subst hp
  obtain ⟨T', h', X', e', E, A, D, -, st⟩ := RoadKit.newO X K.1 K.2.2.2.1 K.2.2.2.2.1 w wi wz eT (g := mkF m pc L S) rfl (hb K.2.1 hd) hc hl
  obtain ⟨c, kk, a1, a2, a3, a4, a5⟩ := A
  have O' : Hp h' n0 ((h.size, ObC Z a0 C fs) :: Ls) := O.new E a1 ⟨⟨kk, a2, a3, a4, a5⟩, fun f hf => by
    obtain ⟨q1, t, q2, q3⟩ := hfs f hf
    obtain ⟨c2, cf, k, i, fd, b1, b2, b3, b4, b5, b6, b7⟩ := D q1 q2
    cases a1.symm.trans b1
    exact ⟨⟨cf, k, i, fd, b2, b3, b4, b5, b6, by rw [← q3]; exact b7⟩, q1, t, q2⟩⟩
  obtain ⟨s₂, o, k1, k2⟩ := r h' h.size O' p e s m args below meth c' T' locs K X' e' N
  exact ⟨s₂, o, st _ k1, k2⟩
theorem Wp.getfield {i j index pc' : Nat} (O : Hp h n0 Ls) (hi : Ls[i]? = some (a, ObC Z a0 C fs)) (hj : fs[j]? = some (n, d, v)) (w : (Jvm.Cond.fieldLink my.cls index C n d).before a0 Z = true) (hd : decode B pc = .ok (.getfield index, 3)) (hp : pc + 3 = pc') (r : Wp l Z R my B ml ret n0 Q h cells slots pc' L (v :: S)) : Wp l Z R my B ml ret n0 Q h cells slots pc L (.ref a :: S) := by
  subst hp
  obtain ⟨-, c, hc, H⟩ := O.at hi
  have F := ((H.2 _ (List.mem_of_getElem? hj)).1).fld hc
  exact Wp.moved (fun {p e s m args below meth c' T locs} K X eT => RoadKit.getF X K.1 K.2.2.2.1 K.2.2.2.2.1 (host := "") (Or.inl w) Via.refl eT F (g := mkF m pc L (.ref a :: S)) rfl rfl (hb K.2.1 hd)) r
theorem Wp.putfield {index kk pc' : Nat} {old : Value} (O : Hp h n0 (LA ++ (a, ObC Z a0 C (F1 ++ (n, d, old) :: F2)) :: LB)) (w : (Jvm.Cond.fieldLink my.cls index C n d).before a0 Z = true) (Lw : (Jvm.Cond.lays C C n d).before a0 Z = true ∨ ((Jvm.Cond.laysFinal C C n d).before a0 Z = true ∧ my.cls = C ∧ my.name = "<init>")) (wi : (Jvm.Cond.instantiable C kk).before a0 Z = true)
    (hty : parseFieldDescriptor d = some ty) (hn : narrow ty v = v) (hf : fits ty v = true) (hne : ∀ f ∈ F1 ++ F2, f.1 ≠ n) (hd : decode B pc = .ok (.putfield index, 3)) (hp : pc + 3 = pc') (r : ∀ h', Hp h' n0 (LA ++ (a, ObC Z a0 C (F1 ++ (n, d, v) :: F2)) :: LB) → Wp l Z R my B ml ret n0 Q h' cells slots pc' L S) : Wp l Z R my B ml ret n0 Q h cells slots pc L (v :: .ref a :: S) := by
  intro p e s m args below meth c' T locs K X eT N
  subst hp
  obtain ⟨g0, c, hc, H⟩ := O.2.2 _ (List.mem_append_right _ (List.mem_cons_self ..))
  have Fm := H.2 (n, d, old) (List.mem_append_right _ (List.mem_cons_self ..))
  obtain ⟨T', h', X', e', W, st⟩ := RoadKit.putF X K.1 K.2.2.2.1 K.2.2.2.2.1 (host := "") (Or.inl w) Via.refl eT (Fm.1.fld hc) (H.exa hc) (Lw.imp id fun q => ⟨q.1, q.2.1, K.2.2.2.2.2.1.trans q.2.2⟩) wi hty hn hf (g := mkF m pc L (v :: .ref a :: S)) rfl rfl (hb K.2.1 hd)
  have O' := O.wr W (P' := ObC Z a0 C (F1 ++ (n, d, v) :: F2)) (fun c0 H0 => by
    obtain ⟨⟨k, h1, h2, h3, h4⟩, h5⟩ := H0
    refine ⟨⟨k, h1, h2, h3, fun q => by rw [sz_set]; exact h4 q⟩, fun f hf => ?_⟩
    have old' : ∀ f ∈ F1 ++ F2, FdC Z C f (c0.setSlot (RoadKit.slotOf Z C n d) v) ∧ Laid Z a0 C C f.1 f.2.1 ∧ ∃ t, parseFieldDescriptor f.2.1 = some t := fun f hf => by
      obtain ⟨⟨cf, kf, i, fd, b1, b2, b3, b4, b5, b6⟩, q1, t, q2⟩ := h5 f (by
        rcases List.mem_append.mp hf with u | u
        · exact List.mem_append_left _ u
        · exact List.mem_append_right _ (List.mem_cons_of_mem _ u))
      have ne := slot_ne q1 Fm.2.1 (hne f hf) q2 hty
      have es : RoadKit.slotOf Z C f.1 f.2.1 = fd.slot := by simp [RoadKit.slotOf, b1]
      refine ⟨⟨cf, kf, i, fd, b1, b2, b3, b4, b5, ?_⟩, q1, t, q2⟩
      show (c0.slots.setIfInBounds (RoadKit.slotOf Z C n d) v)[fd.slot]? = _
      rw [Array.getElem?_setIfInBounds_ne (by rw [← es]; exact Ne.symm ne)]; exact b6
    rcases List.mem_append.mp hf with u | u
    · exact old' f (List.mem_append_left _ u)
    · rcases List.mem_cons.mp u with rfl | u
      · obtain ⟨⟨cf, kf, i, fd, b1, b2, b3, b4, b5, b6⟩, q1, t, q2⟩ := h5 (n, d, old) (List.mem_append_right _ (List.mem_cons_self ..))
        have es : RoadKit.slotOf Z C n d = fd.slot := by
          have b1' : Z.fieldFound? C n d = some (cf, kf, i, fd) := b1
          simp [RoadKit.slotOf, b1']
        have hlt : fd.slot < c0.slots.size := (Array.getElem?_eq_some_iff.mp b6).1
        refine ⟨⟨cf, kf, i, fd, b1, b2, b3, b4, b5, ?_⟩, q1, t, q2⟩
        show (c0.slots.setIfInBounds (RoadKit.slotOf Z C n d) v)[fd.slot]? = _
        rw [es, Array.getElem?_setIfInBounds_self_of_lt hlt]
      · exact old' f (List.mem_append_right _ u))
  obtain ⟨s₂, o, k1, k2⟩ := r h' O' p e s m args below meth c' T' _ K X' e' (Fr.snoc X' N g0)
  exact ⟨s₂, o, st _ k1, k2⟩
end Heap
abbrev rmk (f c s w : Nat) : Room := { frames := f, cells := c, slots := s, locals := w }
end Jvm.OwnKit
namespace Jvm.Pilot.@@N@@
open Jvm Jvm.ClassFile Sem Op Lib Jvm.Free Jvm.Stand Jvm.LawKit Jvm.RoadKit Bundle Jvm.OwnKit Jvm.Pilot.@@N@@.Jvm.D

theorem d0_0 : decode method_2_code 0 = .ok (.iload_n 0, 1) := by decide +kernel
theorem d0_1 : decode method_2_code 1 = .ok (.iconst 1, 1) := by decide +kernel
theorem d0_2 : decode method_2_code 2 = .ok (.iand, 1) := by decide +kernel
theorem d0_3 : decode method_2_code 3 = .ok (.iload_n 0, 1) := by decide +kernel
theorem d0_4 : decode method_2_code 4 = .ok (.iconst 1, 1) := by decide +kernel
theorem d0_5 : decode method_2_code 5 = .ok (.iushr, 1) := by decide +kernel
theorem d0_6 : decode method_2_code 6 = .ok (.iconst 1, 1) := by decide +kernel
theorem d0_7 : decode method_2_code 7 = .ok (.iand, 1) := by decide +kernel
theorem d0_8 : decode method_2_code 8 = .ok (.iadd, 1) := by decide +kernel
theorem d0_9 : decode method_2_code 9 = .ok (.iload_n 0, 1) := by decide +kernel
theorem d0_10 : decode method_2_code 10 = .ok (.iconst 2, 1) := by decide +kernel
theorem d0_11 : decode method_2_code 11 = .ok (.iushr, 1) := by decide +kernel
theorem d0_12 : decode method_2_code 12 = .ok (.iconst 1, 1) := by decide +kernel
theorem d0_13 : decode method_2_code 13 = .ok (.iand, 1) := by decide +kernel
theorem d0_14 : decode method_2_code 14 = .ok (.iadd, 1) := by decide +kernel
theorem d0_15 : decode method_2_code 15 = .ok (.ireturn, 1) := by decide +kernel
theorem d1_0 : decode method_3_code 0 = .ok (.iload_n 1, 1) := by decide +kernel
theorem d1_1 : decode method_3_code 1 = .ok (.istore_n 3, 1) := by decide +kernel
theorem d1_2 : decode method_3_code 2 = .ok (.iload_n 2, 1) := by decide +kernel
theorem d1_3 : decode method_3_code 3 = .ok (.iconst 1, 1) := by decide +kernel
theorem d1_4 : decode method_3_code 4 = .ok (.iand, 1) := by decide +kernel
theorem d1_5 : decode method_3_code 5 = .ok (.ifCond .eq 10, 3) := by decide +kernel
theorem d1_8 : decode method_3_code 8 = .ok (.aload_n 0, 1) := by decide +kernel
theorem d1_9 : decode method_3_code 9 = .ok (.iload_n 3, 1) := by decide +kernel
theorem d1_10 : decode method_3_code 10 = .ok (.iconst 0, 1) := by decide +kernel
theorem d1_11 : decode method_3_code 11 = .ok (.iastore, 1) := by decide +kernel
theorem d1_12 : decode method_3_code 12 = .ok (.iinc 3 1, 3) := by decide +kernel
theorem d1_15 : decode method_3_code 15 = .ok (.iload_n 2, 1) := by decide +kernel
theorem d1_16 : decode method_3_code 16 = .ok (.iconst 2, 1) := by decide +kernel
theorem d1_17 : decode method_3_code 17 = .ok (.iand, 1) := by decide +kernel
theorem d1_18 : decode method_3_code 18 = .ok (.ifCond .eq 10, 3) := by decide +kernel
theorem d1_21 : decode method_3_code 21 = .ok (.aload_n 0, 1) := by decide +kernel
theorem d1_22 : decode method_3_code 22 = .ok (.iload_n 3, 1) := by decide +kernel
theorem d1_23 : decode method_3_code 23 = .ok (.iconst 1, 1) := by decide +kernel
theorem d1_24 : decode method_3_code 24 = .ok (.iastore, 1) := by decide +kernel
theorem d1_25 : decode method_3_code 25 = .ok (.iinc 3 1, 3) := by decide +kernel
theorem d1_28 : decode method_3_code 28 = .ok (.iload_n 2, 1) := by decide +kernel
theorem d1_29 : decode method_3_code 29 = .ok (.iconst 4, 1) := by decide +kernel
theorem d1_30 : decode method_3_code 30 = .ok (.iand, 1) := by decide +kernel
theorem d1_31 : decode method_3_code 31 = .ok (.ifCond .eq 10, 3) := by decide +kernel
theorem d1_34 : decode method_3_code 34 = .ok (.aload_n 0, 1) := by decide +kernel
theorem d1_35 : decode method_3_code 35 = .ok (.iload_n 3, 1) := by decide +kernel
theorem d1_36 : decode method_3_code 36 = .ok (.iconst 2, 1) := by decide +kernel
theorem d1_37 : decode method_3_code 37 = .ok (.iastore, 1) := by decide +kernel
theorem d1_38 : decode method_3_code 38 = .ok (.iinc 3 1, 3) := by decide +kernel
theorem d1_41 : decode method_3_code 41 = .ok (.iload_n 3, 1) := by decide +kernel
theorem d1_42 : decode method_3_code 42 = .ok (.ireturn, 1) := by decide +kernel
theorem d2_0 : decode prog_48_method_1_code 0 = .ok (.aload_n 0, 1) := by decide +kernel
theorem d2_1 : decode prog_48_method_1_code 1 = .ok (.invokespecial 1, 3) := by decide +kernel
theorem d2_4 : decode prog_48_method_1_code 4 = .ok (.aload_n 0, 1) := by decide +kernel
theorem d2_5 : decode prog_48_method_1_code 5 = .ok (.aload_n 1, 1) := by decide +kernel
theorem d2_6 : decode prog_48_method_1_code 6 = .ok (.putfield 7, 3) := by decide +kernel
theorem d2_9 : decode prog_48_method_1_code 9 = .ok (.aload_n 0, 1) := by decide +kernel
theorem d2_10 : decode prog_48_method_1_code 10 = .ok (.aload_n 2, 1) := by decide +kernel
theorem d2_11 : decode prog_48_method_1_code 11 = .ok (.putfield 13, 3) := by decide +kernel
theorem d2_14 : decode prog_48_method_1_code 14 = .ok (.return_, 1) := by decide +kernel
theorem d4_0 : decode prog_48_method_7_code 0 = .ok (.aload_n 0, 1) := by decide +kernel
theorem d4_1 : decode prog_48_method_7_code 1 = .ok (.getfield 13, 3) := by decide +kernel
theorem d4_4 : decode prog_48_method_7_code 4 = .ok (.aload_n 0, 1) := by decide +kernel
theorem d4_5 : decode prog_48_method_7_code 5 = .ok (.getfield 7, 3) := by decide +kernel
theorem d4_8 : decode prog_48_method_7_code 8 = .ok (.iload_n 1, 1) := by decide +kernel
theorem d4_9 : decode prog_48_method_7_code 9 = .ok (.iaload, 1) := by decide +kernel
theorem d4_10 : decode prog_48_method_7_code 10 = .ok (.iload_n 2, 1) := by decide +kernel
theorem d4_11 : decode prog_48_method_7_code 11 = .ok (.iadd, 1) := by decide +kernel
theorem d4_12 : decode prog_48_method_7_code 12 = .ok (.iaload, 1) := by decide +kernel
theorem d4_13 : decode prog_48_method_7_code 13 = .ok (.ireturn, 1) := by decide +kernel
theorem d5_0 : decode method_4_code 0 = .ok (.iconst 0, 1) := by decide +kernel
theorem d5_1 : decode method_4_code 1 = .ok (.istore_n 2, 1) := by decide +kernel
theorem d5_2 : decode method_4_code 2 = .ok (.iload_n 0, 1) := by decide +kernel
theorem d5_3 : decode method_4_code 3 = .ok (.iconst 1, 1) := by decide +kernel
theorem d5_4 : decode method_4_code 4 = .ok (.iand, 1) := by decide +kernel
theorem d5_5 : decode method_4_code 5 = .ok (.ifCond .eq 13, 3) := by decide +kernel
theorem d5_8 : decode method_4_code 8 = .ok (.iload_n 2, 1) := by decide +kernel
theorem d5_9 : decode method_4_code 9 = .ok (.iload_n 1, 1) := by decide +kernel
theorem d5_10 : decode method_4_code 10 = .ok (.if_icmp .ne 5, 3) := by decide +kernel
theorem d5_13 : decode method_4_code 13 = .ok (.iconst 0, 1) := by decide +kernel
theorem d5_14 : decode method_4_code 14 = .ok (.ireturn, 1) := by decide +kernel
theorem d5_15 : decode method_4_code 15 = .ok (.iinc 2 1, 3) := by decide +kernel
theorem d5_18 : decode method_4_code 18 = .ok (.iload_n 0, 1) := by decide +kernel
theorem d5_19 : decode method_4_code 19 = .ok (.iconst 2, 1) := by decide +kernel
theorem d5_20 : decode method_4_code 20 = .ok (.iand, 1) := by decide +kernel
theorem d5_21 : decode method_4_code 21 = .ok (.ifCond .eq 13, 3) := by decide +kernel
theorem d5_24 : decode method_4_code 24 = .ok (.iload_n 2, 1) := by decide +kernel
theorem d5_25 : decode method_4_code 25 = .ok (.iload_n 1, 1) := by decide +kernel
theorem d5_26 : decode method_4_code 26 = .ok (.if_icmp .ne 5, 3) := by decide +kernel
theorem d5_29 : decode method_4_code 29 = .ok (.iconst 1, 1) := by decide +kernel
theorem d5_30 : decode method_4_code 30 = .ok (.ireturn, 1) := by decide +kernel
theorem d5_31 : decode method_4_code 31 = .ok (.iinc 2 1, 3) := by decide +kernel
theorem d5_34 : decode method_4_code 34 = .ok (.iconst 2, 1) := by decide +kernel
theorem d5_35 : decode method_4_code 35 = .ok (.ireturn, 1) := by decide +kernel

theorem pn_g : plainName "com/example/frugal_retrieval/frugalretrieval/index/LinkGraph" = true := by first | (simp [plainName, overriddenIn]; done) | decide +kernel
theorem pn_l : plainName "com/example/frugal_retrieval/frugalretrieval/index/LinkGraphTargetPinLaw" = true := by first | (simp [plainName, overriddenIn]; done) | decide +kernel

theorem pd_0 : parseMethodDescriptor "(I)I" = some ⟨[.int], some .int⟩ := by decide +kernel
theorem pd_1 : parseMethodDescriptor "([III)I" = some ⟨[(.array .int), .int, .int], some .int⟩ := by decide +kernel
theorem pd_2 : parseMethodDescriptor "([I[I)V" = some ⟨[(.array .int), (.array .int)], none⟩ := by decide +kernel
theorem pd_3 : parseMethodDescriptor "(II)I" = some ⟨[.int, .int], some .int⟩ := by decide +kernel

/-! small naturals as ints -/
theorem own_lt {i n : Nat} (hi : i < 2147483648) (hn : n < 2147483648) : (Int32.ofNat i < Int32.ofNat n) ↔ i < n := by
  rw [Int32.lt_iff_toInt_lt, Int32.toInt_ofNat_of_lt (by omega), Int32.toInt_ofNat_of_lt (by omega)]
  omega
theorem own_nn {n : Nat} (hn : n < 2147483648) : ¬ Int32.ofNat n < 0 := by
  rw [Int32.lt_iff_toInt_lt, Int32.toInt_ofNat_of_lt (by omega), show (0 : Int32).toInt = 0 from rfl]
  omega
theorem own_n32 {n : Nat} (hn : n < 2147483648) : (Int32.ofNat n).toNatClampNeg = n := by
  rw [Int32.toNatClampNeg, Int32.toInt_ofNat_of_lt (by omega)]; rfl
theorem own_inj {i n : Nat} (hi : i < 2147483648) (hn : n < 2147483648) : (Int32.ofNat i = Int32.ofNat n) ↔ i = n := by
  rw [← Int32.toInt_inj, Int32.toInt_ofNat_of_lt (by omega), Int32.toInt_ofNat_of_lt (by omega)]
  omega
theorem own_add (i j : Nat) : Int32.ofNat i + Int32.ofNat j = Int32.ofNat (i + j) := (Int32.ofNat_add i j).symm
theorem own_sub {i j : Nat} (h : j ≤ i) : Int32.ofNat i - Int32.ofNat j = Int32.ofNat (i - j) := by
  have e : Int32.ofNat i = Int32.ofNat (i - j) + Int32.ofNat j := by rw [own_add]; congr 1; omega
  rw [e, Int32.add_sub_cancel]
theorem own_one (i : Nat) : Int32.ofNat i + (1 : Int32) = Int32.ofNat (i + 1) := (Int32.ofNat_add i 1).symm
theorem own_toInt {n : Nat} (hn : n < 2147483648) : (Int32.ofNat n).toInt = n := Int32.toInt_ofNat_of_lt (by omega)
/-- an int that isn't negative is a natural -/
theorem own_nat {x : Int32} {b : Nat} (h0 : 0 ≤ x.toInt) (hb : x.toInt ≤ b) : ∃ n : Nat, n ≤ b ∧ n < 2147483648 ∧ x = Int32.ofNat n := by
  have := x.toInt_lt
  refine ⟨x.toInt.toNat, by omega, by omega, Int32.toInt_inj.mp ?_⟩
  rw [own_toInt (by omega)]; omega

def own_pop (m : Nat) : Nat := m % 2 + m / 2 % 2 + m / 4 % 2
def own_put (vs : List Value) (p m : Nat) : List Value :=
  let v1 := if m % 2 = 0 then vs else vs.set p (.int (0 : Int32))
  let v2 := if m / 2 % 2 = 0 then v1 else v1.set (p + m % 2) (.int (1 : Int32))
  if m / 4 % 2 = 0 then v2 else v2.set (p + m % 2 + m / 2 % 2) (.int (2 : Int32))
def own_nth (m j : Nat) : Int32 := if m % 2 = 0 then (if m / 2 % 2 = 0 then 2 else if j = 0 then 1 else 2) else if j = 0 then 0 else (if m / 2 % 2 = 0 then 2 else if j = 1 then 1 else 2)
def own_pick (d a b c : Nat) : Nat := if d = 0 then a else if d = 1 then b else c
def own_st (d a b c : Nat) : Nat := if d = 0 then 0 else if d = 1 then 0 + own_pop a else 0 + own_pop a + own_pop b
theorem own_putlen (vs : List Value) (p m : Nat) : (own_put vs p m).length = vs.length := by
  unfold own_put; simp only []; split <;> split <;> split <;> simp
theorem own_pop3 (m : Nat) : own_pop m ≤ 3 := by unfold own_pop; omega
theorem own_pops : ∀ m : Fin 8, ((Int32.ofNat m.val &&& (1 : Int32)) + (Free.XT.ushr (Int32.ofNat m.val) (1 : Int32) &&& (1 : Int32))) + (Free.XT.ushr (Int32.ofNat m.val) (2 : Int32) &&& (1 : Int32)) = Int32.ofNat (own_pop m.val) := by decide +kernel
theorem own_b0' : ∀ m : Fin 8, (Int32.ofNat m.val &&& (1 : Int32)) = 0 ↔ m.val % 2 = 0 := by decide +kernel
theorem own_b1' : ∀ m : Fin 8, (Int32.ofNat m.val &&& (2 : Int32)) = 0 ↔ m.val / 2 % 2 = 0 := by decide +kernel
theorem own_b2' : ∀ m : Fin 8, (Int32.ofNat m.val &&& (4 : Int32)) = 0 ↔ m.val / 4 % 2 = 0 := by decide +kernel
theorem own_b0 (m : Nat) (hm : m < 8) : (Int32.ofNat m &&& (1 : Int32)) = 0 ↔ m % 2 = 0 := own_b0' ⟨m, hm⟩
theorem own_b1 (m : Nat) (hm : m < 8) : (Int32.ofNat m &&& (2 : Int32)) = 0 ↔ m / 2 % 2 = 0 := own_b1' ⟨m, hm⟩
theorem own_b2 (m : Nat) (hm : m < 8) : (Int32.ofNat m &&& (4 : Int32)) = 0 ↔ m / 4 % 2 = 0 := own_b2' ⟨m, hm⟩
theorem own_ss (a b c d : Nat) (hd : d < 3) : ([(.int (0 : Int32)), (.int (Int32.ofNat (0 + own_pop a))), (.int (Int32.ofNat (0 + own_pop a + own_pop b))), (.int (Int32.ofNat (0 + own_pop a + own_pop b + own_pop c)))] : List Value)[d]? = some (.int (Int32.ofNat (own_st d a b c))) := by
  have hh : d = 0 ∨ d = 1 ∨ d = 2 := by omega
  rcases hh with rfl | rfl | rfl <;> rfl
theorem own_finAll : ∀ a b c : Fin 8, ∀ d j : Fin 3, j.val < own_pop (own_pick d.val a.val b.val c.val) → (own_put (own_put (own_put (List.replicate (own_pop a.val + own_pop b.val + own_pop c.val) (.int (0 : Int32))) 0 a.val) (0 + own_pop a.val) b.val) (0 + own_pop a.val + own_pop b.val) c.val)[own_st d.val a.val b.val c.val + j.val]? = some (.int (own_nth (own_pick d.val a.val b.val c.val) j.val)) := by decide +kernel
theorem own_fin (a b c d j : Nat) (ha : a < 8) (hb : b < 8) (hc : c < 8) (hd : d < 3) (hj : j < own_pop (own_pick d a b c)) : (own_put (own_put (own_put (List.replicate (own_pop a + own_pop b + own_pop c) (.int (0 : Int32))) 0 a) (0 + own_pop a) b) (0 + own_pop a + own_pop b) c)[own_st d a b c + j]? = some (.int (own_nth (own_pick d a b c) j)) :=
  own_finAll ⟨a, ha⟩ ⟨b, hb⟩ ⟨c, hc⟩ ⟨d, hd⟩ ⟨j, Nat.lt_of_lt_of_le hj (own_pop3 _)⟩ hj
theorem own_seven (x : Int32) : 0 ≤ (x &&& (7 : Int32)).toInt ∧ (x &&& (7 : Int32)).toInt ≤ (7 : Nat) := by
  have h1 := c_and x 7 (by decide)
  have e : (7 : Int32).toInt = 7 := rfl
  omega
theorem own_mod (x : Int32) (n : Nat) (h0 : 0 < n) (h1 : n < 100) : 0 ≤ ((x &&& (2147483647 : Int32)) % Int32.ofNat n).toInt ∧ ((x &&& (2147483647 : Int32)) % Int32.ofNat n).toInt ≤ (n - 1 : Nat) := by
  have h2 := c_and x 2147483647 (by decide)
  have h3 := (c_irem (x &&& 2147483647) (Int32.ofNat n) n (own_toInt (by omega))).1 h2.1
  have h4 := Int.emod_lt_of_pos (x &&& 2147483647).toInt (show (0 : Int) < n by omega)
  have h5 := Int.emod_nonneg (x &&& 2147483647).toInt (show (n : Int) ≠ 0 by omega)
  omega
theorem own_three (x : Int32) : (x &&& (2147483647 : Int32)) % (3 : Int32) = 0 ∨ (x &&& (2147483647 : Int32)) % (3 : Int32) = 1 ∨ (x &&& (2147483647 : Int32)) % (3 : Int32) = 2 := by
  have h1 := c_and x 2147483647 (by decide)
  have h2 := (c_irem (x &&& 2147483647) 3 3 rfl).1 h1.1
  simp only [← Int32.toInt_inj, h2]
  simp only [show (0 : Int32).toInt = 0 from rfl, show (1 : Int32).toInt = 1 from rfl, show (2 : Int32).toInt = 2 from rfl]
  omega

set_option maxRecDepth 65536 in
set_option maxHeartbeats 40000000 in
theorem rm_pop (l : Launch) (Z : State) (a0 : Array Value) (hw : ∀ d ∈ tables_1, d.before a0 Z = true) (m : Nat) (hm : m < 8) (h : Heap) (n0 : Nat)  :
    Met l Z (⟨"com/example/frugal_retrieval/frugalretrieval/index/LinkGraphTargetPinLaw", "pop", "(I)I"⟩ : MethodName) method_2_code 1 (some .int) (rmk 0 0 0 0) #[(.int (Int32.ofNat m))] h n0 (fun v h' => v = some (.int (Int32.ofNat (own_pop m))) ∧ h = h') := by
  refine Met.of (L0 := #[.val (.int (Int32.ofNat m))]) pn_l (fun m => rfl) ?_
  refine Wp.iloadN (pc' := 1) d0_0 rfl rfl ?_
  refine Wp.iconst (z := (1 : Int32)) (pc' := 2) d0_1 (by decide) rfl ?_
  refine Wp.iand (z := ((Int32.ofNat m) &&& (1 : Int32))) (pc' := 3) d0_2 rfl rfl ?_
  refine Wp.iloadN (pc' := 4) d0_3 rfl rfl ?_
  refine Wp.iconst (z := (1 : Int32)) (pc' := 5) d0_4 (by decide) rfl ?_
  refine Wp.iushr (z := (Free.XT.ushr (Int32.ofNat m) (1 : Int32))) (pc' := 6) d0_5 rfl rfl ?_
  refine Wp.iconst (z := (1 : Int32)) (pc' := 7) d0_6 (by decide) rfl ?_
  refine Wp.iand (z := ((Free.XT.ushr (Int32.ofNat m) (1 : Int32)) &&& (1 : Int32))) (pc' := 8) d0_7 rfl rfl ?_
  refine Wp.iadd (z := (((Int32.ofNat m) &&& (1 : Int32)) + ((Free.XT.ushr (Int32.ofNat m) (1 : Int32)) &&& (1 : Int32)))) (pc' := 9) d0_8 rfl rfl ?_
  refine Wp.iloadN (pc' := 10) d0_9 rfl rfl ?_
  refine Wp.iconst (z := (2 : Int32)) (pc' := 11) d0_10 (by decide) rfl ?_
  refine Wp.iushr (z := (Free.XT.ushr (Int32.ofNat m) (2 : Int32))) (pc' := 12) d0_11 rfl rfl ?_
  refine Wp.iconst (z := (1 : Int32)) (pc' := 13) d0_12 (by decide) rfl ?_
  refine Wp.iand (z := ((Free.XT.ushr (Int32.ofNat m) (2 : Int32)) &&& (1 : Int32))) (pc' := 14) d0_13 rfl rfl ?_
  refine Wp.iadd (z := ((((Int32.ofNat m) &&& (1 : Int32)) + ((Free.XT.ushr (Int32.ofNat m) (1 : Int32)) &&& (1 : Int32))) + ((Free.XT.ushr (Int32.ofNat m) (2 : Int32)) &&& (1 : Int32)))) (pc' := 15) d0_14 rfl rfl ?_
  exact Wp.retI rfl d0_15 (by decide) (by decide) ⟨congrArg (fun q => some (Value.int q)) (own_pops ⟨m, hm⟩), rfl⟩

set_option maxRecDepth 65536 in
set_option maxHeartbeats 40000000 in
theorem rm_put (l : Launch) (Z : State) (a0 : Array Value) (hw : ∀ d ∈ tables_1, d.before a0 Z = true) (t : Addr) (k : ClassId) (vs : List Value) (p m : Nat) (hm : m < 8) (hp : p + own_pop m ≤ vs.length) (hv : vs.length < 100) (h : Heap) (n0 : Nat) {Ls : List (Addr × (Cell → Prop))} (O : Hp h n0 ((t, ArC Z k .int vs) :: Ls)) :
    Met l Z (⟨"com/example/frugal_retrieval/frugalretrieval/index/LinkGraphTargetPinLaw", "put", "([III)I"⟩ : MethodName) method_3_code 4 (some .int) (rmk 0 0 0 0) #[(.ref t), (.int (Int32.ofNat p)), (.int (Int32.ofNat m))] h n0 (fun v h' => v = some (.int (Int32.ofNat (p + own_pop m))) ∧ Hp h' n0 ((t, ArC Z k .int (own_put vs p m)) :: Ls)) := by
  refine Met.of (L0 := #[.val (.ref t), .val (.int (Int32.ofNat p)), .val (.int (Int32.ofNat m)), .unset]) pn_l (fun m => rfl) ?_
  refine Wp.iloadN (pc' := 1) d1_0 rfl rfl ?_
  refine Wp.istoreN (L' := #[.val (.ref t), .val (.int (Int32.ofNat p)), .val (.int (Int32.ofNat m)), .val (.int (Int32.ofNat p))]) (pc' := 2) d1_1 rfl rfl ?_
  refine Wp.iloadN (pc' := 3) d1_2 rfl rfl ?_
  refine Wp.iconst (z := (1 : Int32)) (pc' := 4) d1_3 (by decide) rfl ?_
  refine Wp.iand (z := ((Int32.ofNat m) &&& (1 : Int32))) (pc' := 5) d1_4 rfl rfl ?_
  by_cases c5 : ((Int32.ofNat m) &&& (1 : Int32)) = 0
  · refine Wp.ifY (pc' := 15) d1_5 c5 (by decide) (by decide) ?_
    have f0 : m % 2 = 0 := (own_b0 m hm).mp c5
    refine Wp.iloadN (pc' := 16) d1_15 rfl rfl ?_
    refine Wp.iconst (z := (2 : Int32)) (pc' := 17) d1_16 (by decide) rfl ?_
    refine Wp.iand (z := ((Int32.ofNat m) &&& (2 : Int32))) (pc' := 18) d1_17 rfl rfl ?_
    by_cases c18 : ((Int32.ofNat m) &&& (2 : Int32)) = 0
    · refine Wp.ifY (pc' := 28) d1_18 c18 (by decide) (by decide) ?_
      have f1 : m / 2 % 2 = 0 := (own_b1 m hm).mp c18
      refine Wp.iloadN (pc' := 29) d1_28 rfl rfl ?_
      refine Wp.iconst (z := (4 : Int32)) (pc' := 30) d1_29 (by decide) rfl ?_
      refine Wp.iand (z := ((Int32.ofNat m) &&& (4 : Int32))) (pc' := 31) d1_30 rfl rfl ?_
      by_cases c31 : ((Int32.ofNat m) &&& (4 : Int32)) = 0
      · refine Wp.ifY (pc' := 41) d1_31 c31 (by decide) (by decide) ?_
        have f2 : m / 4 % 2 = 0 := (own_b2 m hm).mp c31
        refine Wp.iloadN (pc' := 42) d1_41 rfl rfl ?_
        have r1 : (Int32.ofNat p) = Int32.ofNat (p + own_pop m) := congrArg Int32.ofNat (by unfold own_pop; omega)
        have r2 : own_put vs p m = vs := by simp [own_put, f0, f1, f2]
        exact Wp.retI rfl d1_42 (by decide) (by decide) ⟨by rw [r1], by rw [r2]; exact O⟩
      · refine Wp.ifN (pc' := 34) d1_31 c31 rfl ?_
        have f2 : m / 4 % 2 = 1 := by
          have : ¬ m / 4 % 2 = 0 := fun q => c31 ((own_b2 m hm).mpr q)
          omega
        have hp2 := hp
        rw [own_pop] at hp2
        refine Wp.aloadN (pc' := 35) d1_34 rfl rfl rfl ?_
        refine Wp.iloadN (pc' := 36) d1_35 rfl rfl ?_
        refine Wp.iconst (z := (2 : Int32)) (pc' := 37) d1_36 (by decide) rfl ?_
        refine Wp.iastore (LA := []) (jn := p) (pc' := 38) O d1_37 (own_nn (by omega)) (own_n32 (by omega)) (by (try simp only [List.length_set]); omega) rfl ?_
        intro h1 O1
        have O1 : Hp h1 n0 ((t, ArC Z k .int (vs.set p (.int (2 : Int32)))) :: Ls) := O1
        refine Wp.iinc (z := (Int32.ofNat (p + 1))) (L' := #[.val (.ref t), .val (.int (Int32.ofNat p)), .val (.int (Int32.ofNat m)), .val (.int (Int32.ofNat (p + 1)))]) (pc' := 41) d1_38 rfl (own_one _) rfl rfl ?_
        refine Wp.iloadN (pc' := 42) d1_41 rfl rfl ?_
        have r1 : (Int32.ofNat (p + 1)) = Int32.ofNat (p + own_pop m) := congrArg Int32.ofNat (by unfold own_pop; omega)
        have r2 : own_put vs p m = (vs.set p (.int (2 : Int32))) := by simp [own_put, f0, f1, f2]
        exact Wp.retI rfl d1_42 (by decide) (by decide) ⟨by rw [r1], by rw [r2]; exact O1⟩
    · refine Wp.ifN (pc' := 21) d1_18 c18 rfl ?_
      have f1 : m / 2 % 2 = 1 := by
        have : ¬ m / 2 % 2 = 0 := fun q => c18 ((own_b1 m hm).mpr q)
        omega
      have hp1 := hp
      rw [own_pop] at hp1
      refine Wp.aloadN (pc' := 22) d1_21 rfl rfl rfl ?_
      refine Wp.iloadN (pc' := 23) d1_22 rfl rfl ?_
      refine Wp.iconst (z := (1 : Int32)) (pc' := 24) d1_23 (by decide) rfl ?_
      refine Wp.iastore (LA := []) (jn := p) (pc' := 25) O d1_24 (own_nn (by omega)) (own_n32 (by omega)) (by (try simp only [List.length_set]); omega) rfl ?_
      intro h2 O2
      have O2 : Hp h2 n0 ((t, ArC Z k .int (vs.set p (.int (1 : Int32)))) :: Ls) := O2
      refine Wp.iinc (z := (Int32.ofNat (p + 1))) (L' := #[.val (.ref t), .val (.int (Int32.ofNat p)), .val (.int (Int32.ofNat m)), .val (.int (Int32.ofNat (p + 1)))]) (pc' := 28) d1_25 rfl (own_one _) rfl rfl ?_
      refine Wp.iloadN (pc' := 29) d1_28 rfl rfl ?_
      refine Wp.iconst (z := (4 : Int32)) (pc' := 30) d1_29 (by decide) rfl ?_
      refine Wp.iand (z := ((Int32.ofNat m) &&& (4 : Int32))) (pc' := 31) d1_30 rfl rfl ?_
      by_cases c31 : ((Int32.ofNat m) &&& (4 : Int32)) = 0
      · refine Wp.ifY (pc' := 41) d1_31 c31 (by decide) (by decide) ?_
        have f2 : m / 4 % 2 = 0 := (own_b2 m hm).mp c31
        refine Wp.iloadN (pc' := 42) d1_41 rfl rfl ?_
        have r1 : (Int32.ofNat (p + 1)) = Int32.ofNat (p + own_pop m) := congrArg Int32.ofNat (by unfold own_pop; omega)
        have r2 : own_put vs p m = (vs.set p (.int (1 : Int32))) := by simp [own_put, f0, f1, f2]
        exact Wp.retI rfl d1_42 (by decide) (by decide) ⟨by rw [r1], by rw [r2]; exact O2⟩
      · refine Wp.ifN (pc' := 34) d1_31 c31 rfl ?_
        have f2 : m / 4 % 2 = 1 := by
          have : ¬ m / 4 % 2 = 0 := fun q => c31 ((own_b2 m hm).mpr q)
          omega
        have hp2 := hp
        rw [own_pop] at hp2
        refine Wp.aloadN (pc' := 35) d1_34 rfl rfl rfl ?_
        refine Wp.iloadN (pc' := 36) d1_35 rfl rfl ?_
        refine Wp.iconst (z := (2 : Int32)) (pc' := 37) d1_36 (by decide) rfl ?_
        refine Wp.iastore (LA := []) (jn := (p + 1)) (pc' := 38) O2 d1_37 (own_nn (by omega)) (own_n32 (by omega)) (by (try simp only [List.length_set]); omega) rfl ?_
        intro h3 O3
        have O3 : Hp h3 n0 ((t, ArC Z k .int ((vs.set p (.int (1 : Int32))).set (p + 1) (.int (2 : Int32)))) :: Ls) := O3
        refine Wp.iinc (z := (Int32.ofNat ((p + 1) + 1))) (L' := #[.val (.ref t), .val (.int (Int32.ofNat p)), .val (.int (Int32.ofNat m)), .val (.int (Int32.ofNat ((p + 1) + 1)))]) (pc' := 41) d1_38 rfl (own_one _) rfl rfl ?_
        refine Wp.iloadN (pc' := 42) d1_41 rfl rfl ?_
        have r1 : (Int32.ofNat ((p + 1) + 1)) = Int32.ofNat (p + own_pop m) := congrArg Int32.ofNat (by unfold own_pop; omega)
        have r2 : own_put vs p m = ((vs.set p (.int (1 : Int32))).set (p + 1) (.int (2 : Int32))) := by simp [own_put, f0, f1, f2]
        exact Wp.retI rfl d1_42 (by decide) (by decide) ⟨by rw [r1], by rw [r2]; exact O3⟩
  · refine Wp.ifN (pc' := 8) d1_5 c5 rfl ?_
    have f0 : m % 2 = 1 := by
      have : ¬ m % 2 = 0 := fun q => c5 ((own_b0 m hm).mpr q)
      omega
    have hp0 := hp
    rw [own_pop] at hp0
    refine Wp.aloadN (pc' := 9) d1_8 rfl rfl rfl ?_
    refine Wp.iloadN (pc' := 10) d1_9 rfl rfl ?_
    refine Wp.iconst (z := (0 : Int32)) (pc' := 11) d1_10 (by decide) rfl ?_
    refine Wp.iastore (LA := []) (jn := p) (pc' := 12) O d1_11 (own_nn (by omega)) (own_n32 (by omega)) (by (try simp only [List.length_set]); omega) rfl ?_
    intro h4 O4
    have O4 : Hp h4 n0 ((t, ArC Z k .int (vs.set p (.int (0 : Int32)))) :: Ls) := O4
    refine Wp.iinc (z := (Int32.ofNat (p + 1))) (L' := #[.val (.ref t), .val (.int (Int32.ofNat p)), .val (.int (Int32.ofNat m)), .val (.int (Int32.ofNat (p + 1)))]) (pc' := 15) d1_12 rfl (own_one _) rfl rfl ?_
    refine Wp.iloadN (pc' := 16) d1_15 rfl rfl ?_
    refine Wp.iconst (z := (2 : Int32)) (pc' := 17) d1_16 (by decide) rfl ?_
    refine Wp.iand (z := ((Int32.ofNat m) &&& (2 : Int32))) (pc' := 18) d1_17 rfl rfl ?_
    by_cases c18 : ((Int32.ofNat m) &&& (2 : Int32)) = 0
    · refine Wp.ifY (pc' := 28) d1_18 c18 (by decide) (by decide) ?_
      have f1 : m / 2 % 2 = 0 := (own_b1 m hm).mp c18
      refine Wp.iloadN (pc' := 29) d1_28 rfl rfl ?_
      refine Wp.iconst (z := (4 : Int32)) (pc' := 30) d1_29 (by decide) rfl ?_
      refine Wp.iand (z := ((Int32.ofNat m) &&& (4 : Int32))) (pc' := 31) d1_30 rfl rfl ?_
      by_cases c31 : ((Int32.ofNat m) &&& (4 : Int32)) = 0
      · refine Wp.ifY (pc' := 41) d1_31 c31 (by decide) (by decide) ?_
        have f2 : m / 4 % 2 = 0 := (own_b2 m hm).mp c31
        refine Wp.iloadN (pc' := 42) d1_41 rfl rfl ?_
        have r1 : (Int32.ofNat (p + 1)) = Int32.ofNat (p + own_pop m) := congrArg Int32.ofNat (by unfold own_pop; omega)
        have r2 : own_put vs p m = (vs.set p (.int (0 : Int32))) := by simp [own_put, f0, f1, f2]
        exact Wp.retI rfl d1_42 (by decide) (by decide) ⟨by rw [r1], by rw [r2]; exact O4⟩
      · refine Wp.ifN (pc' := 34) d1_31 c31 rfl ?_
        have f2 : m / 4 % 2 = 1 := by
          have : ¬ m / 4 % 2 = 0 := fun q => c31 ((own_b2 m hm).mpr q)
          omega
        have hp2 := hp
        rw [own_pop] at hp2
        refine Wp.aloadN (pc' := 35) d1_34 rfl rfl rfl ?_
        refine Wp.iloadN (pc' := 36) d1_35 rfl rfl ?_
        refine Wp.iconst (z := (2 : Int32)) (pc' := 37) d1_36 (by decide) rfl ?_
        refine Wp.iastore (LA := []) (jn := (p + 1)) (pc' := 38) O4 d1_37 (own_nn (by omega)) (own_n32 (by omega)) (by (try simp only [List.length_set]); omega) rfl ?_
        intro h5 O5
        have O5 : Hp h5 n0 ((t, ArC Z k .int ((vs.set p (.int (0 : Int32))).set (p + 1) (.int (2 : Int32)))) :: Ls) := O5
        refine Wp.iinc (z := (Int32.ofNat ((p + 1) + 1))) (L' := #[.val (.ref t), .val (.int (Int32.ofNat p)), .val (.int (Int32.ofNat m)), .val (.int (Int32.ofNat ((p + 1) + 1)))]) (pc' := 41) d1_38 rfl (own_one _) rfl rfl ?_
        refine Wp.iloadN (pc' := 42) d1_41 rfl rfl ?_
        have r1 : (Int32.ofNat ((p + 1) + 1)) = Int32.ofNat (p + own_pop m) := congrArg Int32.ofNat (by unfold own_pop; omega)
        have r2 : own_put vs p m = ((vs.set p (.int (0 : Int32))).set (p + 1) (.int (2 : Int32))) := by simp [own_put, f0, f1, f2]
        exact Wp.retI rfl d1_42 (by decide) (by decide) ⟨by rw [r1], by rw [r2]; exact O5⟩
    · refine Wp.ifN (pc' := 21) d1_18 c18 rfl ?_
      have f1 : m / 2 % 2 = 1 := by
        have : ¬ m / 2 % 2 = 0 := fun q => c18 ((own_b1 m hm).mpr q)
        omega
      have hp1 := hp
      rw [own_pop] at hp1
      refine Wp.aloadN (pc' := 22) d1_21 rfl rfl rfl ?_
      refine Wp.iloadN (pc' := 23) d1_22 rfl rfl ?_
      refine Wp.iconst (z := (1 : Int32)) (pc' := 24) d1_23 (by decide) rfl ?_
      refine Wp.iastore (LA := []) (jn := (p + 1)) (pc' := 25) O4 d1_24 (own_nn (by omega)) (own_n32 (by omega)) (by (try simp only [List.length_set]); omega) rfl ?_
      intro h6 O6
      have O6 : Hp h6 n0 ((t, ArC Z k .int ((vs.set p (.int (0 : Int32))).set (p + 1) (.int (1 : Int32)))) :: Ls) := O6
      refine Wp.iinc (z := (Int32.ofNat ((p + 1) + 1))) (L' := #[.val (.ref t), .val (.int (Int32.ofNat p)), .val (.int (Int32.ofNat m)), .val (.int (Int32.ofNat ((p + 1) + 1)))]) (pc' := 28) d1_25 rfl (own_one _) rfl rfl ?_
      refine Wp.iloadN (pc' := 29) d1_28 rfl rfl ?_
      refine Wp.iconst (z := (4 : Int32)) (pc' := 30) d1_29 (by decide) rfl ?_
      refine Wp.iand (z := ((Int32.ofNat m) &&& (4 : Int32))) (pc' := 31) d1_30 rfl rfl ?_
      by_cases c31 : ((Int32.ofNat m) &&& (4 : Int32)) = 0
      · refine Wp.ifY (pc' := 41) d1_31 c31 (by decide) (by decide) ?_
        have f2 : m / 4 % 2 = 0 := (own_b2 m hm).mp c31
        refine Wp.iloadN (pc' := 42) d1_41 rfl rfl ?_
        have r1 : (Int32.ofNat ((p + 1) + 1)) = Int32.ofNat (p + own_pop m) := congrArg Int32.ofNat (by unfold own_pop; omega)
        have r2 : own_put vs p m = ((vs.set p (.int (0 : Int32))).set (p + 1) (.int (1 : Int32))) := by simp [own_put, f0, f1, f2]
        exact Wp.retI rfl d1_42 (by decide) (by decide) ⟨by rw [r1], by rw [r2]; exact O6⟩
      · refine Wp.ifN (pc' := 34) d1_31 c31 rfl ?_
        have f2 : m / 4 % 2 = 1 := by
          have : ¬ m / 4 % 2 = 0 := fun q => c31 ((own_b2 m hm).mpr q)
          omega
        have hp2 := hp
        rw [own_pop] at hp2
        refine Wp.aloadN (pc' := 35) d1_34 rfl rfl rfl ?_
        refine Wp.iloadN (pc' := 36) d1_35 rfl rfl ?_
        refine Wp.iconst (z := (2 : Int32)) (pc' := 37) d1_36 (by decide) rfl ?_
        refine Wp.iastore (LA := []) (jn := ((p + 1) + 1)) (pc' := 38) O6 d1_37 (own_nn (by omega)) (own_n32 (by omega)) (by (try simp only [List.length_set]); omega) rfl ?_
        intro h7 O7
        have O7 : Hp h7 n0 ((t, ArC Z k .int (((vs.set p (.int (0 : Int32))).set (p + 1) (.int (1 : Int32))).set ((p + 1) + 1) (.int (2 : Int32)))) :: Ls) := O7
        refine Wp.iinc (z := (Int32.ofNat (((p + 1) + 1) + 1))) (L' := #[.val (.ref t), .val (.int (Int32.ofNat p)), .val (.int (Int32.ofNat m)), .val (.int (Int32.ofNat (((p + 1) + 1) + 1)))]) (pc' := 41) d1_38 rfl (own_one _) rfl rfl ?_
        refine Wp.iloadN (pc' := 42) d1_41 rfl rfl ?_
        have r1 : (Int32.ofNat (((p + 1) + 1) + 1)) = Int32.ofNat (p + own_pop m) := congrArg Int32.ofNat (by unfold own_pop; omega)
        have r2 : own_put vs p m = (((vs.set p (.int (0 : Int32))).set (p + 1) (.int (1 : Int32))).set ((p + 1) + 1) (.int (2 : Int32))) := by simp [own_put, f0, f1, f2]
        exact Wp.retI rfl d1_42 (by decide) (by decide) ⟨by rw [r1], by rw [r2]; exact O7⟩

set_option maxRecDepth 65536 in
set_option maxHeartbeats 40000000 in
theorem rm_ini (l : Launch) (Z : State) (a0 : Array Value) (hw : ∀ d ∈ tables_1, d.before a0 Z = true) (g s t : Addr) (h : Heap) (n0 : Nat) {Ls : List (Addr × (Cell → Prop))} (O : Hp h n0 ((g, ObC Z a0 "com/example/frugal_retrieval/frugalretrieval/index/LinkGraph" [("starts", "[I", .null), ("targets", "[I", .null)]) :: Ls)) :
    Met l Z (⟨"com/example/frugal_retrieval/frugalretrieval/index/LinkGraph", "<init>", "([I[I)V"⟩ : MethodName) prog_48_method_1_code 3 none (rmk 1 0 0 12) #[(.ref g), (.ref s), (.ref t)] h n0 (fun v h' => v = none ∧ Hp h' n0 ((g, ObC Z a0 "com/example/frugal_retrieval/frugalretrieval/index/LinkGraph" [("starts", "[I", (.ref s)), ("targets", "[I", (.ref t))]) :: Ls)) := by
  refine Met.of (L0 := #[.val (.ref g), .val (.ref s), .val (.ref t)]) pn_g (fun m => rfl) ?_
  refine Wp.aloadN (pc' := 1) d2_0 rfl rfl rfl ?_
  refine Wp.initO (pc' := 4) (hw _ (List.mem_of_getElem? (i := 14) rfl)) (hw _ (List.mem_of_getElem? (i := 15) rfl)) (hw _ (List.mem_of_getElem? (i := 16) rfl)) (W := 0) rfl (Nat.le_refl 0) (by decide) (by decide) d2_1 rfl ?_
  refine Wp.aloadN (pc' := 5) d2_4 rfl rfl rfl ?_
  refine Wp.aloadN (pc' := 6) d2_5 rfl rfl rfl ?_
  refine Wp.putfield (LA := []) (F1 := []) (pc' := 9) O (hw _ (List.mem_of_getElem? (i := 17) rfl)) (Or.inr ⟨(hw _ (List.mem_of_getElem? (i := 18) rfl)), rfl, rfl⟩) (hw _ (List.mem_of_getElem? (i := 9) rfl)) (ty := (.array .int)) (by decide) rfl rfl (by simp) d2_6 rfl ?_
  intro h1 O1
  have O1 : Hp h1 n0 ((g, ObC Z a0 "com/example/frugal_retrieval/frugalretrieval/index/LinkGraph" [("starts", "[I", (.ref s)), ("targets", "[I", .null)]) :: Ls) := O1
  refine Wp.aloadN (pc' := 10) d2_9 rfl rfl rfl ?_
  refine Wp.aloadN (pc' := 11) d2_10 rfl rfl rfl ?_
  refine Wp.putfield (LA := []) (F1 := [_]) (pc' := 14) O1 (hw _ (List.mem_of_getElem? (i := 19) rfl)) (Or.inr ⟨(hw _ (List.mem_of_getElem? (i := 20) rfl)), rfl, rfl⟩) (hw _ (List.mem_of_getElem? (i := 9) rfl)) (ty := (.array .int)) (by decide) rfl rfl (by simp) d2_11 rfl ?_
  intro h2 O2
  have O2 : Hp h2 n0 ((g, ObC Z a0 "com/example/frugal_retrieval/frugalretrieval/index/LinkGraph" [("starts", "[I", (.ref s)), ("targets", "[I", (.ref t))]) :: Ls) := O2
  exact Wp.ret0 rfl d2_14 (by decide) (by decide) ⟨rfl, O2⟩

set_option maxRecDepth 65536 in
set_option maxHeartbeats 40000000 in
theorem rm_tar (l : Launch) (Z : State) (a0 : Array Value) (hw : ∀ d ∈ tables_1, d.before a0 Z = true) (g s t : Addr) (ks kt : ClassId) (ss ts : List Value) (d j q : Nat) (x : Int32) (hd : d < 100) (hj : j < 100) (hq : q < 100) (hs : ss[d]? = some (.int (Int32.ofNat q))) (ht : ts[q + j]? = some (.int x)) (h : Heap) (n0 : Nat) {Ls : List (Addr × (Cell → Prop))} (O : Hp h n0 ((g, ObC Z a0 "com/example/frugal_retrieval/frugalretrieval/index/LinkGraph" [("starts", "[I", (.ref s)), ("targets", "[I", (.ref t))]) :: (s, ArC Z ks .int ss) :: (t, ArC Z kt .int ts) :: Ls)) :
    Met l Z (⟨"com/example/frugal_retrieval/frugalretrieval/index/LinkGraph", "target", "(II)I"⟩ : MethodName) prog_48_method_7_code 3 (some .int) (rmk 0 0 0 0) #[(.ref g), (.int (Int32.ofNat d)), (.int (Int32.ofNat j))] h n0 (fun v h' => v = some (.int x) ∧ h = h') := by
  refine Met.of (L0 := #[.val (.ref g), .val (.int (Int32.ofNat d)), .val (.int (Int32.ofNat j))]) pn_g (fun m => rfl) ?_
  refine Wp.aloadN (pc' := 1) d4_0 rfl rfl rfl ?_
  refine Wp.getfield (i := 0) (j := 1) (pc' := 4) O rfl rfl (hw _ (List.mem_of_getElem? (i := 19) rfl)) d4_1 rfl ?_
  refine Wp.aloadN (pc' := 5) d4_4 rfl rfl rfl ?_
  refine Wp.getfield (i := 0) (j := 0) (pc' := 8) O rfl rfl (hw _ (List.mem_of_getElem? (i := 17) rfl)) d4_5 rfl ?_
  refine Wp.iloadN (pc' := 9) d4_8 rfl rfl ?_
  refine Wp.iaload (i := 1) (jn := d) (v := (.int (Int32.ofNat q))) (pc' := 10) O rfl d4_9 (own_nn (by omega)) (own_n32 (by omega)) hs rfl ?_
  refine Wp.iloadN (pc' := 11) d4_10 rfl rfl ?_
  refine Wp.iadd (z := (Int32.ofNat (q + j))) (pc' := 12) d4_11 (own_add q j) rfl ?_
  refine Wp.iaload (i := 2) (jn := (q + j)) (v := (.int x)) (pc' := 13) O rfl d4_12 (own_nn (by omega)) (own_n32 (by omega)) ht rfl ?_
  exact Wp.retI rfl d4_13 (by decide) (by decide) ⟨rfl, rfl⟩

set_option maxRecDepth 65536 in
set_option maxHeartbeats 40000000 in
theorem rm_nth (l : Launch) (Z : State) (a0 : Array Value) (hw : ∀ d ∈ tables_1, d.before a0 Z = true) (m j : Nat) (hm : m < 8) (hj : j < 100) (h : Heap) (n0 : Nat)  :
    Met l Z (⟨"com/example/frugal_retrieval/frugalretrieval/index/LinkGraphTargetPinLaw", "nth", "(II)I"⟩ : MethodName) method_4_code 3 (some .int) (rmk 0 0 0 0) #[(.int (Int32.ofNat m)), (.int (Int32.ofNat j))] h n0 (fun v h' => v = some (.int (own_nth m j)) ∧ h = h') := by
  refine Met.of (L0 := #[.val (.int (Int32.ofNat m)), .val (.int (Int32.ofNat j)), .unset]) pn_l (fun m => rfl) ?_
  refine Wp.iconst (z := (0 : Int32)) (pc' := 1) d5_0 (by decide) rfl ?_
  refine Wp.istoreN (L' := #[.val (.int (Int32.ofNat m)), .val (.int (Int32.ofNat j)), .val (.int (0 : Int32))]) (pc' := 2) d5_1 rfl rfl ?_
  refine Wp.iloadN (pc' := 3) d5_2 rfl rfl ?_
  refine Wp.iconst (z := (1 : Int32)) (pc' := 4) d5_3 (by decide) rfl ?_
  refine Wp.iand (z := ((Int32.ofNat m) &&& (1 : Int32))) (pc' := 5) d5_4 rfl rfl ?_
  by_cases c5 : ((Int32.ofNat m) &&& (1 : Int32)) = 0
  · refine Wp.ifY (pc' := 18) d5_5 c5 (by decide) (by decide) ?_
    have f0 : m % 2 = 0 := (own_b0 m hm).mp c5
    refine Wp.iloadN (pc' := 19) d5_18 rfl rfl ?_
    refine Wp.iconst (z := (2 : Int32)) (pc' := 20) d5_19 (by decide) rfl ?_
    refine Wp.iand (z := ((Int32.ofNat m) &&& (2 : Int32))) (pc' := 21) d5_20 rfl rfl ?_
    by_cases c21 : ((Int32.ofNat m) &&& (2 : Int32)) = 0
    · refine Wp.ifY (pc' := 34) d5_21 c21 (by decide) (by decide) ?_
      have f1 : m / 2 % 2 = 0 := (own_b1 m hm).mp c21
      refine Wp.iconst (z := (2 : Int32)) (pc' := 35) d5_34 (by decide) rfl ?_
      exact Wp.retI rfl d5_35 (by decide) (by decide) ⟨by simp [own_nth, *], rfl⟩
    · refine Wp.ifN (pc' := 24) d5_21 c21 rfl ?_
      have f1 : ¬ m / 2 % 2 = 0 := fun q => c21 ((own_b1 m hm).mpr q)
      refine Wp.iloadN (pc' := 25) d5_24 rfl rfl ?_
      refine Wp.iloadN (pc' := 26) d5_25 rfl rfl ?_
      by_cases c26 : (0 : Int32) = (Int32.ofNat j)
      · refine Wp.icmpN (pc' := 29) d5_26 (not_not_intro c26) rfl ?_
        have g1 : j = 0 := (own_inj (i := 0) (by omega) (by omega)).mp c26 |>.symm
        refine Wp.iconst (z := (1 : Int32)) (pc' := 30) d5_29 (by decide) rfl ?_
        exact Wp.retI rfl d5_30 (by decide) (by decide) ⟨by simp [own_nth, *], rfl⟩
      · refine Wp.icmpY (pc' := 31) d5_26 c26 (by decide) (by decide) ?_
        have g1 : ¬ j = 0 := fun q => c26 ((own_inj (i := 0) (by omega) (by omega)).mpr q.symm)
        refine Wp.iinc (z := ((0 : Int32) + (1 : Int32))) (L' := #[.val (.int (Int32.ofNat m)), .val (.int (Int32.ofNat j)), .val (.int ((0 : Int32) + (1 : Int32)))]) (pc' := 34) d5_31 rfl rfl rfl rfl ?_
        refine Wp.iconst (z := (2 : Int32)) (pc' := 35) d5_34 (by decide) rfl ?_
        exact Wp.retI rfl d5_35 (by decide) (by decide) ⟨by simp [own_nth, *], rfl⟩
  · refine Wp.ifN (pc' := 8) d5_5 c5 rfl ?_
    have f0 : ¬ m % 2 = 0 := fun q => c5 ((own_b0 m hm).mpr q)
    refine Wp.iloadN (pc' := 9) d5_8 rfl rfl ?_
    refine Wp.iloadN (pc' := 10) d5_9 rfl rfl ?_
    by_cases c10 : (0 : Int32) = (Int32.ofNat j)
    · refine Wp.icmpN (pc' := 13) d5_10 (not_not_intro c10) rfl ?_
      have g0 : j = 0 := (own_inj (i := 0) (by omega) (by omega)).mp c10 |>.symm
      refine Wp.iconst (z := (0 : Int32)) (pc' := 14) d5_13 (by decide) rfl ?_
      exact Wp.retI rfl d5_14 (by decide) (by decide) ⟨by simp [own_nth, *], rfl⟩
    · refine Wp.icmpY (pc' := 15) d5_10 c10 (by decide) (by decide) ?_
      have g0 : ¬ j = 0 := fun q => c10 ((own_inj (i := 0) (by omega) (by omega)).mpr q.symm)
      refine Wp.iinc (z := (1 : Int32)) (L' := #[.val (.int (Int32.ofNat m)), .val (.int (Int32.ofNat j)), .val (.int (1 : Int32))]) (pc' := 18) d5_15 rfl rfl rfl rfl ?_
      refine Wp.iloadN (pc' := 19) d5_18 rfl rfl ?_
      refine Wp.iconst (z := (2 : Int32)) (pc' := 20) d5_19 (by decide) rfl ?_
      refine Wp.iand (z := ((Int32.ofNat m) &&& (2 : Int32))) (pc' := 21) d5_20 rfl rfl ?_
      by_cases c21 : ((Int32.ofNat m) &&& (2 : Int32)) = 0
      · refine Wp.ifY (pc' := 34) d5_21 c21 (by decide) (by decide) ?_
        have f1 : m / 2 % 2 = 0 := (own_b1 m hm).mp c21
        refine Wp.iconst (z := (2 : Int32)) (pc' := 35) d5_34 (by decide) rfl ?_
        exact Wp.retI rfl d5_35 (by decide) (by decide) ⟨by simp [own_nth, *], rfl⟩
      · refine Wp.ifN (pc' := 24) d5_21 c21 rfl ?_
        have f1 : ¬ m / 2 % 2 = 0 := fun q => c21 ((own_b1 m hm).mpr q)
        refine Wp.iloadN (pc' := 25) d5_24 rfl rfl ?_
        refine Wp.iloadN (pc' := 26) d5_25 rfl rfl ?_
        by_cases c26 : (1 : Int32) = (Int32.ofNat j)
        · refine Wp.icmpN (pc' := 29) d5_26 (not_not_intro c26) rfl ?_
          have g1 : j = 1 := (own_inj (i := 1) (by omega) (by omega)).mp c26 |>.symm
          refine Wp.iconst (z := (1 : Int32)) (pc' := 30) d5_29 (by decide) rfl ?_
          exact Wp.retI rfl d5_30 (by decide) (by decide) ⟨by simp [own_nth, *], rfl⟩
        · refine Wp.icmpY (pc' := 31) d5_26 c26 (by decide) (by decide) ?_
          have g1 : ¬ j = 1 := fun q => c26 ((own_inj (i := 1) (by omega) (by omega)).mpr q.symm)
          refine Wp.iinc (z := ((1 : Int32) + (1 : Int32))) (L' := #[.val (.int (Int32.ofNat m)), .val (.int (Int32.ofNat j)), .val (.int ((1 : Int32) + (1 : Int32)))]) (pc' := 34) d5_31 rfl rfl rfl rfl ?_
          refine Wp.iconst (z := (2 : Int32)) (pc' := 35) d5_34 (by decide) rfl ?_
          exact Wp.retI rfl d5_35 (by decide) (by decide) ⟨by simp [own_nth, *], rfl⟩

set_option maxRecDepth 65536 in
set_option maxHeartbeats 40000000 in
theorem rm0 (l : Launch) (Z : State) (a0 : Array Value) (hw : ∀ d ∈ tables_1, d.before a0 Z = true) (p0 p1 p2 : Int32) (h : Heap) (n0 : Nat) (Z0 : n0 ≤ h.size) :
    Met l Z x code maxLocals ret room_1 #[(.int p0), (.int p1), (.int p2)] h n0 (fun v _ => v = some (.int 1)) := by
  refine Met.of (L0 := #[.val (.int p0), .val (.int p1), .val (.int p2), .unset, .unset, .unset, .unset, .unset, .unset, .unset, .unset, .unset, .unset, .unset]) pn_l (fun m => rfl) ?_
  have O : Hp h n0 [] := Hp.nil Z0
  refine Wp.iloadN (pc' := 1) at_0 rfl rfl ?_
  refine Wp.bipush (z := (7 : Int32)) (pc' := 3) at_1 (by decide) rfl ?_
  obtain ⟨a, ha', -, ea⟩ := own_nat (b := 7) (own_seven p0).1 (own_seven p0).2
  have ha : a < 8 := by omega
  refine Wp.iand (z := (Int32.ofNat a)) (pc' := 4) at_3 ea rfl ?_
  refine Wp.istoreN (L' := #[.val (.int p0), .val (.int p1), .val (.int p2), .val (.int (Int32.ofNat a)), .unset, .unset, .unset, .unset, .unset, .unset, .unset, .unset, .unset, .unset]) (pc' := 5) at_4 rfl rfl ?_
  refine Wp.iloadN (pc' := 6) at_5 rfl rfl ?_
  refine Wp.iconst (z := (3 : Int32)) (pc' := 7) at_6 (by decide) rfl ?_
  refine Wp.iushr (z := (Free.XT.ushr p0 (3 : Int32))) (pc' := 8) at_7 rfl rfl ?_
  refine Wp.bipush (z := (7 : Int32)) (pc' := 10) at_8 (by decide) rfl ?_
  obtain ⟨b, hb', -, eb⟩ := own_nat (b := 7) (own_seven (Free.XT.ushr p0 (3 : Int32))).1 (own_seven (Free.XT.ushr p0 (3 : Int32))).2
  have hb : b < 8 := by omega
  refine Wp.iand (z := (Int32.ofNat b)) (pc' := 11) at_10 eb rfl ?_
  refine Wp.istore (L' := #[.val (.int p0), .val (.int p1), .val (.int p2), .val (.int (Int32.ofNat a)), .val (.int (Int32.ofNat b)), .unset, .unset, .unset, .unset, .unset, .unset, .unset, .unset, .unset]) (pc' := 13) at_11 rfl rfl ?_
  refine Wp.iloadN (pc' := 14) at_13 rfl rfl ?_
  refine Wp.bipush (z := (6 : Int32)) (pc' := 16) at_14 (by decide) rfl ?_
  refine Wp.iushr (z := (Free.XT.ushr p0 (6 : Int32))) (pc' := 17) at_16 rfl rfl ?_
  refine Wp.bipush (z := (7 : Int32)) (pc' := 19) at_17 (by decide) rfl ?_
  obtain ⟨c, hc', -, ec⟩ := own_nat (b := 7) (own_seven (Free.XT.ushr p0 (6 : Int32))).1 (own_seven (Free.XT.ushr p0 (6 : Int32))).2
  have hc : c < 8 := by omega
  refine Wp.iand (z := (Int32.ofNat c)) (pc' := 20) at_19 ec rfl ?_
  have ka := own_pop3 a
  have kb := own_pop3 b
  have kc := own_pop3 c
  refine Wp.istore (L' := #[.val (.int p0), .val (.int p1), .val (.int p2), .val (.int (Int32.ofNat a)), .val (.int (Int32.ofNat b)), .val (.int (Int32.ofNat c)), .unset, .unset, .unset, .unset, .unset, .unset, .unset, .unset]) (pc' := 22) at_20 rfl rfl ?_
  refine Wp.iloadN (pc' := 23) at_22 rfl rfl ?_
  refine Wp.callS (yy := (⟨"com/example/frugal_retrieval/frugalretrieval/index/LinkGraphTargetPinLaw", "pop", "(I)I"⟩ : MethodName)) (pc' := 26) (argsL := [(.int (Int32.ofNat a))]) (S := []) (rm_pop l Z a0 hw a ha h n0) (hw _ (List.mem_of_getElem? (i := 0) rfl)) (hw _ (List.mem_of_getElem? (i := 1) rfl)) (hw _ (List.mem_of_getElem? (i := 2) rfl)) (hw _ (List.mem_of_getElem? (i := 3) rfl)) (by decide) (W := 0) rfl (lenOf pd_0 rfl) rfl rfl (Nat.le_refl 0) (by decide) (by decide) (by decide) (by decide) at_23 rfl ?_
  rintro _ _ ⟨rfl, rfl⟩
  show Wp _ _ _ _ _ _ _ _ _ _ _ _ 26 #[.val (.int p0), .val (.int p1), .val (.int p2), .val (.int (Int32.ofNat a)), .val (.int (Int32.ofNat b)), .val (.int (Int32.ofNat c)), .unset, .unset, .unset, .unset, .unset, .unset, .unset, .unset] [(.int (Int32.ofNat (own_pop a)))]
  refine Wp.iload (pc' := 28) at_26 rfl rfl ?_
  refine Wp.callS (yy := (⟨"com/example/frugal_retrieval/frugalretrieval/index/LinkGraphTargetPinLaw", "pop", "(I)I"⟩ : MethodName)) (pc' := 31) (argsL := [(.int (Int32.ofNat b))]) (S := [(.int (Int32.ofNat (own_pop a)))]) (rm_pop l Z a0 hw b hb h n0) (hw _ (List.mem_of_getElem? (i := 0) rfl)) (hw _ (List.mem_of_getElem? (i := 1) rfl)) (hw _ (List.mem_of_getElem? (i := 2) rfl)) (hw _ (List.mem_of_getElem? (i := 3) rfl)) (by decide) (W := 1) rfl (lenOf pd_0 rfl) rfl rfl (Nat.le_refl 1) (by decide) (by decide) (by decide) (by decide) at_28 rfl ?_
  rintro _ _ ⟨rfl, rfl⟩
  show Wp _ _ _ _ _ _ _ _ _ _ _ _ 31 #[.val (.int p0), .val (.int p1), .val (.int p2), .val (.int (Int32.ofNat a)), .val (.int (Int32.ofNat b)), .val (.int (Int32.ofNat c)), .unset, .unset, .unset, .unset, .unset, .unset, .unset, .unset] [(.int (Int32.ofNat (own_pop b))), (.int (Int32.ofNat (own_pop a)))]
  refine Wp.iadd (z := (Int32.ofNat (own_pop a + own_pop b))) (pc' := 32) at_31 (own_add _ _) rfl ?_
  refine Wp.iload (pc' := 34) at_32 rfl rfl ?_
  refine Wp.callS (yy := (⟨"com/example/frugal_retrieval/frugalretrieval/index/LinkGraphTargetPinLaw", "pop", "(I)I"⟩ : MethodName)) (pc' := 37) (argsL := [(.int (Int32.ofNat c))]) (S := [(.int (Int32.ofNat (own_pop a + own_pop b)))]) (rm_pop l Z a0 hw c hc h n0) (hw _ (List.mem_of_getElem? (i := 0) rfl)) (hw _ (List.mem_of_getElem? (i := 1) rfl)) (hw _ (List.mem_of_getElem? (i := 2) rfl)) (hw _ (List.mem_of_getElem? (i := 3) rfl)) (by decide) (W := 1) rfl (lenOf pd_0 rfl) rfl rfl (Nat.le_refl 1) (by decide) (by decide) (by decide) (by decide) at_34 rfl ?_
  rintro _ _ ⟨rfl, rfl⟩
  show Wp _ _ _ _ _ _ _ _ _ _ _ _ 37 #[.val (.int p0), .val (.int p1), .val (.int p2), .val (.int (Int32.ofNat a)), .val (.int (Int32.ofNat b)), .val (.int (Int32.ofNat c)), .unset, .unset, .unset, .unset, .unset, .unset, .unset, .unset] [(.int (Int32.ofNat (own_pop c))), (.int (Int32.ofNat (own_pop a + own_pop b)))]
  refine Wp.iadd (z := (Int32.ofNat (own_pop a + own_pop b + own_pop c))) (pc' := 38) at_37 (own_add _ _) rfl ?_
  refine Wp.istore (L' := #[.val (.int p0), .val (.int p1), .val (.int p2), .val (.int (Int32.ofNat a)), .val (.int (Int32.ofNat b)), .val (.int (Int32.ofNat c)), .val (.int (Int32.ofNat (own_pop a + own_pop b + own_pop c))), .unset, .unset, .unset, .unset, .unset, .unset, .unset]) (pc' := 40) at_38 rfl rfl ?_
  refine Wp.iload (pc' := 42) at_40 rfl rfl ?_
  refine Wp.newarr (m := (own_pop a + own_pop b + own_pop c)) (cap := 9) (pc' := 44) O (hw _ (List.mem_of_getElem? (i := 4) rfl)) at_42 (own_nn (by omega)) (own_n32 (by omega)) (by omega) (by decide) (by decide) (by decide) rfl ?_
  intro h2 t k1 O2
  have O2 : Hp h2 n0 [(t, ArC Z k1 .int (List.replicate (own_pop a + own_pop b + own_pop c) (.int (0 : Int32))))] := O2
  refine Wp.astore (L' := #[.val (.int p0), .val (.int p1), .val (.int p2), .val (.int (Int32.ofNat a)), .val (.int (Int32.ofNat b)), .val (.int (Int32.ofNat c)), .val (.int (Int32.ofNat (own_pop a + own_pop b + own_pop c))), .val (.ref t), .unset, .unset, .unset, .unset, .unset, .unset]) (pc' := 46) at_44 rfl rfl rfl ?_
  refine Wp.iconst (z := (4 : Int32)) (pc' := 47) at_46 (by decide) rfl ?_
  refine Wp.newarr (m := 4) (cap := 4) (pc' := 49) O2 (hw _ (List.mem_of_getElem? (i := 4) rfl)) at_47 (by decide) rfl (Nat.le_refl _) (by decide) (by decide) (by decide) rfl ?_
  intro h4 s k3 O4
  have O4 : Hp h4 n0 [(s, ArC Z k3 .int [(.int (0 : Int32)), (.int (0 : Int32)), (.int (0 : Int32)), (.int (0 : Int32))]), (t, ArC Z k1 .int (List.replicate (own_pop a + own_pop b + own_pop c) (.int (0 : Int32))))] := O4
  refine Wp.astore (L' := #[.val (.int p0), .val (.int p1), .val (.int p2), .val (.int (Int32.ofNat a)), .val (.int (Int32.ofNat b)), .val (.int (Int32.ofNat c)), .val (.int (Int32.ofNat (own_pop a + own_pop b + own_pop c))), .val (.ref t), .val (.ref s), .unset, .unset, .unset, .unset, .unset]) (pc' := 51) at_49 rfl rfl rfl ?_
  refine Wp.aload (pc' := 53) at_51 rfl rfl rfl ?_
  refine Wp.iconst (z := (0 : Int32)) (pc' := 54) at_53 (by decide) rfl ?_
  refine Wp.iconst (z := (0 : Int32)) (pc' := 55) at_54 (by decide) rfl ?_
  refine Wp.iastore (LA := []) (jn := 0) (pc' := 56) O4 at_55 (by decide) rfl (by first | decide | simp) rfl ?_
  intro h5 O5
  have O5 : Hp h5 n0 [(s, ArC Z k3 .int [(.int (0 : Int32)), (.int (0 : Int32)), (.int (0 : Int32)), (.int (0 : Int32))]), (t, ArC Z k1 .int (List.replicate (own_pop a + own_pop b + own_pop c) (.int (0 : Int32))))] := O5
  refine Wp.aload (pc' := 58) at_56 rfl rfl rfl ?_
  refine Wp.iconst (z := (1 : Int32)) (pc' := 59) at_58 (by decide) rfl ?_
  refine Wp.aload (pc' := 61) at_59 rfl rfl rfl ?_
  refine Wp.iconst (z := (0 : Int32)) (pc' := 62) at_61 (by decide) rfl ?_
  refine Wp.iloadN (pc' := 63) at_62 rfl rfl ?_
  have O6 : Hp h5 n0 [(t, ArC Z k1 .int (List.replicate (own_pop a + own_pop b + own_pop c) (.int (0 : Int32)))), (s, ArC Z k3 .int [(.int (0 : Int32)), (.int (0 : Int32)), (.int (0 : Int32)), (.int (0 : Int32))])] := Hp.front (LA := [_]) O5
  refine Wp.callS (yy := (⟨"com/example/frugal_retrieval/frugalretrieval/index/LinkGraphTargetPinLaw", "put", "([III)I"⟩ : MethodName)) (pc' := 66) (argsL := [(.ref t), (.int (0 : Int32)), (.int (Int32.ofNat a))]) (S := [(.int (1 : Int32)), (.ref s)]) (rm_put l Z a0 hw t k1 (List.replicate (own_pop a + own_pop b + own_pop c) (.int (0 : Int32))) 0 a ha (by simp only [own_putlen, List.length_replicate]; omega) (by simp only [own_putlen, List.length_replicate]; omega) h5 n0 O6) (hw _ (List.mem_of_getElem? (i := 5) rfl)) (hw _ (List.mem_of_getElem? (i := 6) rfl)) (hw _ (List.mem_of_getElem? (i := 2) rfl)) (hw _ (List.mem_of_getElem? (i := 7) rfl)) (by decide) (W := 2) rfl (lenOf pd_1 rfl) rfl rfl (Nat.le_refl 2) (by decide) (by decide) (by decide) (by decide) at_63 rfl ?_
  rintro _ h7 ⟨rfl, O7⟩
  have O7 : Hp h7 n0 [(t, ArC Z k1 .int (own_put (List.replicate (own_pop a + own_pop b + own_pop c) (.int (0 : Int32))) 0 a)), (s, ArC Z k3 .int [(.int (0 : Int32)), (.int (0 : Int32)), (.int (0 : Int32)), (.int (0 : Int32))])] := O7
  show Wp _ _ _ _ _ _ _ _ _ _ _ _ 66 #[.val (.int p0), .val (.int p1), .val (.int p2), .val (.int (Int32.ofNat a)), .val (.int (Int32.ofNat b)), .val (.int (Int32.ofNat c)), .val (.int (Int32.ofNat (own_pop a + own_pop b + own_pop c))), .val (.ref t), .val (.ref s), .unset, .unset, .unset, .unset, .unset] [(.int (Int32.ofNat (0 + own_pop a))), (.int (1 : Int32)), (.ref s)]
  refine Wp.iastore (LA := [_]) (jn := 1) (pc' := 67) O7 at_66 (by decide) rfl (by first | decide | simp) rfl ?_
  intro h8 O8
  have O8 : Hp h8 n0 [(t, ArC Z k1 .int (own_put (List.replicate (own_pop a + own_pop b + own_pop c) (.int (0 : Int32))) 0 a)), (s, ArC Z k3 .int [(.int (0 : Int32)), (.int (Int32.ofNat (0 + own_pop a))), (.int (0 : Int32)), (.int (0 : Int32))])] := O8
  refine Wp.aload (pc' := 69) at_67 rfl rfl rfl ?_
  refine Wp.iconst (z := (2 : Int32)) (pc' := 70) at_69 (by decide) rfl ?_
  refine Wp.aload (pc' := 72) at_70 rfl rfl rfl ?_
  refine Wp.aload (pc' := 74) at_72 rfl rfl rfl ?_
  refine Wp.iconst (z := (1 : Int32)) (pc' := 75) at_74 (by decide) rfl ?_
  refine Wp.iaload (i := 1) (jn := 1) (v := (.int (Int32.ofNat (0 + own_pop a)))) (pc' := 76) O8 rfl at_75 (by decide) rfl rfl rfl ?_
  refine Wp.iload (pc' := 78) at_76 rfl rfl ?_
  refine Wp.callS (yy := (⟨"com/example/frugal_retrieval/frugalretrieval/index/LinkGraphTargetPinLaw", "put", "([III)I"⟩ : MethodName)) (pc' := 81) (argsL := [(.ref t), (.int (Int32.ofNat (0 + own_pop a))), (.int (Int32.ofNat b))]) (S := [(.int (2 : Int32)), (.ref s)]) (rm_put l Z a0 hw t k1 (own_put (List.replicate (own_pop a + own_pop b + own_pop c) (.int (0 : Int32))) 0 a) (0 + own_pop a) b hb (by simp only [own_putlen, List.length_replicate]; omega) (by simp only [own_putlen, List.length_replicate]; omega) h8 n0 O8) (hw _ (List.mem_of_getElem? (i := 5) rfl)) (hw _ (List.mem_of_getElem? (i := 6) rfl)) (hw _ (List.mem_of_getElem? (i := 2) rfl)) (hw _ (List.mem_of_getElem? (i := 7) rfl)) (by decide) (W := 2) rfl (lenOf pd_1 rfl) rfl rfl (Nat.le_refl 2) (by decide) (by decide) (by decide) (by decide) at_78 rfl ?_
  rintro _ h9 ⟨rfl, O9⟩
  have O9 : Hp h9 n0 [(t, ArC Z k1 .int (own_put (own_put (List.replicate (own_pop a + own_pop b + own_pop c) (.int (0 : Int32))) 0 a) (0 + own_pop a) b)), (s, ArC Z k3 .int [(.int (0 : Int32)), (.int (Int32.ofNat (0 + own_pop a))), (.int (0 : Int32)), (.int (0 : Int32))])] := O9
  show Wp _ _ _ _ _ _ _ _ _ _ _ _ 81 #[.val (.int p0), .val (.int p1), .val (.int p2), .val (.int (Int32.ofNat a)), .val (.int (Int32.ofNat b)), .val (.int (Int32.ofNat c)), .val (.int (Int32.ofNat (own_pop a + own_pop b + own_pop c))), .val (.ref t), .val (.ref s), .unset, .unset, .unset, .unset, .unset] [(.int (Int32.ofNat (0 + own_pop a + own_pop b))), (.int (2 : Int32)), (.ref s)]
  refine Wp.iastore (LA := [_]) (jn := 2) (pc' := 82) O9 at_81 (by decide) rfl (by first | decide | simp) rfl ?_
  intro h10 O10
  have O10 : Hp h10 n0 [(t, ArC Z k1 .int (own_put (own_put (List.replicate (own_pop a + own_pop b + own_pop c) (.int (0 : Int32))) 0 a) (0 + own_pop a) b)), (s, ArC Z k3 .int [(.int (0 : Int32)), (.int (Int32.ofNat (0 + own_pop a))), (.int (Int32.ofNat (0 + own_pop a + own_pop b))), (.int (0 : Int32))])] := O10
  refine Wp.aload (pc' := 84) at_82 rfl rfl rfl ?_
  refine Wp.iconst (z := (3 : Int32)) (pc' := 85) at_84 (by decide) rfl ?_
  refine Wp.aload (pc' := 87) at_85 rfl rfl rfl ?_
  refine Wp.aload (pc' := 89) at_87 rfl rfl rfl ?_
  refine Wp.iconst (z := (2 : Int32)) (pc' := 90) at_89 (by decide) rfl ?_
  refine Wp.iaload (i := 1) (jn := 2) (v := (.int (Int32.ofNat (0 + own_pop a + own_pop b)))) (pc' := 91) O10 rfl at_90 (by decide) rfl rfl rfl ?_
  refine Wp.iload (pc' := 93) at_91 rfl rfl ?_
  refine Wp.callS (yy := (⟨"com/example/frugal_retrieval/frugalretrieval/index/LinkGraphTargetPinLaw", "put", "([III)I"⟩ : MethodName)) (pc' := 96) (argsL := [(.ref t), (.int (Int32.ofNat (0 + own_pop a + own_pop b))), (.int (Int32.ofNat c))]) (S := [(.int (3 : Int32)), (.ref s)]) (rm_put l Z a0 hw t k1 (own_put (own_put (List.replicate (own_pop a + own_pop b + own_pop c) (.int (0 : Int32))) 0 a) (0 + own_pop a) b) (0 + own_pop a + own_pop b) c hc (by simp only [own_putlen, List.length_replicate]; omega) (by simp only [own_putlen, List.length_replicate]; omega) h10 n0 O10) (hw _ (List.mem_of_getElem? (i := 5) rfl)) (hw _ (List.mem_of_getElem? (i := 6) rfl)) (hw _ (List.mem_of_getElem? (i := 2) rfl)) (hw _ (List.mem_of_getElem? (i := 7) rfl)) (by decide) (W := 2) rfl (lenOf pd_1 rfl) rfl rfl (Nat.le_refl 2) (by decide) (by decide) (by decide) (by decide) at_93 rfl ?_
  rintro _ h11 ⟨rfl, O11⟩
  have O11 : Hp h11 n0 [(t, ArC Z k1 .int (own_put (own_put (own_put (List.replicate (own_pop a + own_pop b + own_pop c) (.int (0 : Int32))) 0 a) (0 + own_pop a) b) (0 + own_pop a + own_pop b) c)), (s, ArC Z k3 .int [(.int (0 : Int32)), (.int (Int32.ofNat (0 + own_pop a))), (.int (Int32.ofNat (0 + own_pop a + own_pop b))), (.int (0 : Int32))])] := O11
  show Wp _ _ _ _ _ _ _ _ _ _ _ _ 96 #[.val (.int p0), .val (.int p1), .val (.int p2), .val (.int (Int32.ofNat a)), .val (.int (Int32.ofNat b)), .val (.int (Int32.ofNat c)), .val (.int (Int32.ofNat (own_pop a + own_pop b + own_pop c))), .val (.ref t), .val (.ref s), .unset, .unset, .unset, .unset, .unset] [(.int (Int32.ofNat (0 + own_pop a + own_pop b + own_pop c))), (.int (3 : Int32)), (.ref s)]
  refine Wp.iastore (LA := [_]) (jn := 3) (pc' := 97) O11 at_96 (by decide) rfl (by first | decide | simp) rfl ?_
  intro h12 O12
  have O12 : Hp h12 n0 [(t, ArC Z k1 .int (own_put (own_put (own_put (List.replicate (own_pop a + own_pop b + own_pop c) (.int (0 : Int32))) 0 a) (0 + own_pop a) b) (0 + own_pop a + own_pop b) c)), (s, ArC Z k3 .int [(.int (0 : Int32)), (.int (Int32.ofNat (0 + own_pop a))), (.int (Int32.ofNat (0 + own_pop a + own_pop b))), (.int (Int32.ofNat (0 + own_pop a + own_pop b + own_pop c)))])] := O12
  refine Wp.newO (pc' := 100) O12 (hw _ (List.mem_of_getElem? (i := 8) rfl)) (hw _ (List.mem_of_getElem? (i := 9) rfl)) (hw _ (List.mem_of_getElem? (i := 10) rfl)) [("starts", "[I", .null), ("targets", "[I", .null)] (List.forall_mem_cons.2 ⟨⟨Or.inr (hw _ (List.mem_of_getElem? (i := 18) rfl)), (.array .int), by decide, rfl⟩, (List.forall_mem_cons.2 ⟨⟨Or.inr (hw _ (List.mem_of_getElem? (i := 20) rfl)), (.array .int), by decide, rfl⟩, (fun _ q => nomatch q)⟩)⟩) at_97 (by decide) (by decide) rfl ?_
  intro h13 g O13
  have O13 : Hp h13 n0 [(g, ObC Z a0 "com/example/frugal_retrieval/frugalretrieval/index/LinkGraph" [("starts", "[I", .null), ("targets", "[I", .null)]), (t, ArC Z k1 .int (own_put (own_put (own_put (List.replicate (own_pop a + own_pop b + own_pop c) (.int (0 : Int32))) 0 a) (0 + own_pop a) b) (0 + own_pop a + own_pop b) c)), (s, ArC Z k3 .int [(.int (0 : Int32)), (.int (Int32.ofNat (0 + own_pop a))), (.int (Int32.ofNat (0 + own_pop a + own_pop b))), (.int (Int32.ofNat (0 + own_pop a + own_pop b + own_pop c)))])] := O13
  refine Wp.dup (pc' := 101) at_100 rfl rfl ?_
  refine Wp.aload (pc' := 103) at_101 rfl rfl rfl ?_
  refine Wp.aload (pc' := 105) at_103 rfl rfl rfl ?_
  refine Wp.callI (yy := (⟨"com/example/frugal_retrieval/frugalretrieval/index/LinkGraph", "<init>", "([I[I)V"⟩ : MethodName)) (pc' := 108) (argsL := [(.ref s), (.ref t)]) (a := g) (S := [(.ref g)]) (rm_ini l Z a0 hw g s t h13 n0 O13) rfl (hw _ (List.mem_of_getElem? (i := 11) rfl)) (hw _ (List.mem_of_getElem? (i := 12) rfl)) (hw _ (List.mem_of_getElem? (i := 10) rfl)) (hw _ (List.mem_of_getElem? (i := 13) rfl)) (by decide) (W := 1) rfl (lenOf pd_2 rfl) rfl rfl (Nat.le_refl 1) (by decide) (by decide) (by decide) (by decide) at_105 rfl ?_
  rintro _ h14 ⟨rfl, O14⟩
  have O14 : Hp h14 n0 [(g, ObC Z a0 "com/example/frugal_retrieval/frugalretrieval/index/LinkGraph" [("starts", "[I", (.ref s)), ("targets", "[I", (.ref t))]), (t, ArC Z k1 .int (own_put (own_put (own_put (List.replicate (own_pop a + own_pop b + own_pop c) (.int (0 : Int32))) 0 a) (0 + own_pop a) b) (0 + own_pop a + own_pop b) c)), (s, ArC Z k3 .int [(.int (0 : Int32)), (.int (Int32.ofNat (0 + own_pop a))), (.int (Int32.ofNat (0 + own_pop a + own_pop b))), (.int (Int32.ofNat (0 + own_pop a + own_pop b + own_pop c)))])] := O14
  show Wp _ _ _ _ _ _ _ _ _ _ _ _ 108 #[.val (.int p0), .val (.int p1), .val (.int p2), .val (.int (Int32.ofNat a)), .val (.int (Int32.ofNat b)), .val (.int (Int32.ofNat c)), .val (.int (Int32.ofNat (own_pop a + own_pop b + own_pop c))), .val (.ref t), .val (.ref s), .unset, .unset, .unset, .unset, .unset] [(.ref g)]
  refine Wp.astore (L' := #[.val (.int p0), .val (.int p1), .val (.int p2), .val (.int (Int32.ofNat a)), .val (.int (Int32.ofNat b)), .val (.int (Int32.ofNat c)), .val (.int (Int32.ofNat (own_pop a + own_pop b + own_pop c))), .val (.ref t), .val (.ref s), .val (.ref g), .unset, .unset, .unset, .unset]) (pc' := 110) at_108 rfl rfl rfl ?_
  refine Wp.iloadN (pc' := 111) at_110 rfl rfl ?_
  refine Wp.ldcInt (v := (2147483647 : Int32)) (pc' := 113) (hw _ (List.mem_of_getElem? (i := 21) rfl)) at_111 rfl ?_
  refine Wp.iand (z := (p1 &&& (2147483647 : Int32))) (pc' := 114) at_113 rfl rfl ?_
  refine Wp.iconst (z := (3 : Int32)) (pc' := 115) at_114 (by decide) rfl ?_
  have tail : ∀ d md : Nat, d < 3 → md < 8 → md = own_pick d a b c → Wp l Z room_1 x code maxLocals ret n0 (fun v _ => v = some (.int 1)) h14 3 15 140 #[.val (.int p0), .val (.int p1), .val (.int p2), .val (.int (Int32.ofNat a)), .val (.int (Int32.ofNat b)), .val (.int (Int32.ofNat c)), .val (.int (Int32.ofNat (own_pop a + own_pop b + own_pop c))), .val (.ref t), .val (.ref s), .val (.ref g), .val (.int (Int32.ofNat d)), .unset, .unset, .unset] [(.int (Int32.ofNat md))] := by
    intro d md hd hmd ed
    refine Wp.istore (L' := #[.val (.int p0), .val (.int p1), .val (.int p2), .val (.int (Int32.ofNat a)), .val (.int (Int32.ofNat b)), .val (.int (Int32.ofNat c)), .val (.int (Int32.ofNat (own_pop a + own_pop b + own_pop c))), .val (.ref t), .val (.ref s), .val (.ref g), .val (.int (Int32.ofNat d)), .val (.int (Int32.ofNat md)), .unset, .unset]) (pc' := 142) at_140 rfl rfl ?_
    refine Wp.iload (pc' := 144) at_142 rfl rfl ?_
    refine Wp.callS (yy := (⟨"com/example/frugal_retrieval/frugalretrieval/index/LinkGraphTargetPinLaw", "pop", "(I)I"⟩ : MethodName)) (pc' := 147) (argsL := [(.int (Int32.ofNat md))]) (S := []) (rm_pop l Z a0 hw md hmd h14 n0) (hw _ (List.mem_of_getElem? (i := 0) rfl)) (hw _ (List.mem_of_getElem? (i := 1) rfl)) (hw _ (List.mem_of_getElem? (i := 2) rfl)) (hw _ (List.mem_of_getElem? (i := 3) rfl)) (by decide) (W := 0) rfl (lenOf pd_0 rfl) rfl rfl (Nat.le_refl 0) (by decide) (by decide) (by decide) (by decide) at_144 rfl ?_
    rintro _ _ ⟨rfl, rfl⟩
    show Wp _ _ _ _ _ _ _ _ _ _ _ _ 147 #[.val (.int p0), .val (.int p1), .val (.int p2), .val (.int (Int32.ofNat a)), .val (.int (Int32.ofNat b)), .val (.int (Int32.ofNat c)), .val (.int (Int32.ofNat (own_pop a + own_pop b + own_pop c))), .val (.ref t), .val (.ref s), .val (.ref g), .val (.int (Int32.ofNat d)), .val (.int (Int32.ofNat md)), .unset, .unset] [(.int (Int32.ofNat (own_pop md)))]
    refine Wp.istore (L' := #[.val (.int p0), .val (.int p1), .val (.int p2), .val (.int (Int32.ofNat a)), .val (.int (Int32.ofNat b)), .val (.int (Int32.ofNat c)), .val (.int (Int32.ofNat (own_pop a + own_pop b + own_pop c))), .val (.ref t), .val (.ref s), .val (.ref g), .val (.int (Int32.ofNat d)), .val (.int (Int32.ofNat md)), .val (.int (Int32.ofNat (own_pop md))), .unset]) (pc' := 149) at_147 rfl rfl ?_
    refine Wp.iload (pc' := 151) at_149 rfl rfl ?_
    by_cases c151 : (Int32.ofNat (own_pop md)) = 0
    · refine Wp.ifN (pc' := 154) at_151 (not_not_intro c151) rfl ?_
      refine Wp.iconst (z := (1 : Int32)) (pc' := 155) at_154 (by decide) rfl ?_
      exact Wp.retS (t := .boolean) rfl (Or.inl rfl) rfl at_155 (by decide) (by decide) rfl
    · refine Wp.ifY (pc' := 156) at_151 c151 (by decide) (by decide) ?_
      refine Wp.iloadN (pc' := 157) at_156 rfl rfl ?_
      refine Wp.ldcInt (v := (2147483647 : Int32)) (pc' := 159) (hw _ (List.mem_of_getElem? (i := 21) rfl)) at_157 rfl ?_
      refine Wp.iand (z := (p2 &&& (2147483647 : Int32))) (pc' := 160) at_159 rfl rfl ?_
      refine Wp.iload (pc' := 162) at_160 rfl rfl ?_
      have kmd := own_pop3 md
      have kp : 0 < own_pop md := Nat.pos_of_ne_zero fun q => c151 (by rw [q]; rfl)
      obtain ⟨j, hj1, hj2, ej⟩ := own_nat (b := own_pop md - 1) (own_mod p2 (own_pop md) kp (by omega)).1 (own_mod p2 (own_pop md) kp (by omega)).2
      refine Wp.irem (z := (Int32.ofNat j)) (pc' := 163) at_162 (fun q => c151 q) ej rfl ?_
      refine Wp.istore (L' := #[.val (.int p0), .val (.int p1), .val (.int p2), .val (.int (Int32.ofNat a)), .val (.int (Int32.ofNat b)), .val (.int (Int32.ofNat c)), .val (.int (Int32.ofNat (own_pop a + own_pop b + own_pop c))), .val (.ref t), .val (.ref s), .val (.ref g), .val (.int (Int32.ofNat d)), .val (.int (Int32.ofNat md)), .val (.int (Int32.ofNat (own_pop md))), .val (.int (Int32.ofNat j))]) (pc' := 165) at_163 rfl rfl ?_
      refine Wp.aload (pc' := 167) at_165 rfl rfl rfl ?_
      refine Wp.iload (pc' := 169) at_167 rfl rfl ?_
      refine Wp.iload (pc' := 171) at_169 rfl rfl ?_
      have O15 : Hp h14 n0 [(t, ArC Z k1 .int (own_put (own_put (own_put (List.replicate (own_pop a + own_pop b + own_pop c) (.int (0 : Int32))) 0 a) (0 + own_pop a) b) (0 + own_pop a + own_pop b) c)), (g, ObC Z a0 "com/example/frugal_retrieval/frugalretrieval/index/LinkGraph" [("starts", "[I", (.ref s)), ("targets", "[I", (.ref t))]), (s, ArC Z k3 .int [(.int (0 : Int32)), (.int (Int32.ofNat (0 + own_pop a))), (.int (Int32.ofNat (0 + own_pop a + own_pop b))), (.int (Int32.ofNat (0 + own_pop a + own_pop b + own_pop c)))])] := Hp.front (LA := [_]) O14
      have O16 : Hp h14 n0 [(s, ArC Z k3 .int [(.int (0 : Int32)), (.int (Int32.ofNat (0 + own_pop a))), (.int (Int32.ofNat (0 + own_pop a + own_pop b))), (.int (Int32.ofNat (0 + own_pop a + own_pop b + own_pop c)))]), (t, ArC Z k1 .int (own_put (own_put (own_put (List.replicate (own_pop a + own_pop b + own_pop c) (.int (0 : Int32))) 0 a) (0 + own_pop a) b) (0 + own_pop a + own_pop b) c)), (g, ObC Z a0 "com/example/frugal_retrieval/frugalretrieval/index/LinkGraph" [("starts", "[I", (.ref s)), ("targets", "[I", (.ref t))])] := Hp.front (LA := [_, _]) O15
      have O17 : Hp h14 n0 [(g, ObC Z a0 "com/example/frugal_retrieval/frugalretrieval/index/LinkGraph" [("starts", "[I", (.ref s)), ("targets", "[I", (.ref t))]), (s, ArC Z k3 .int [(.int (0 : Int32)), (.int (Int32.ofNat (0 + own_pop a))), (.int (Int32.ofNat (0 + own_pop a + own_pop b))), (.int (Int32.ofNat (0 + own_pop a + own_pop b + own_pop c)))]), (t, ArC Z k1 .int (own_put (own_put (own_put (List.replicate (own_pop a + own_pop b + own_pop c) (.int (0 : Int32))) 0 a) (0 + own_pop a) b) (0 + own_pop a + own_pop b) c))] := Hp.front (LA := [_, _]) O16
      have fin := own_fin a b c d j ha hb hc hd (by rw [← ed]; omega)
      rw [← ed] at fin
      have sb : own_st d a b c < 100 := by unfold own_st; split <;> (try split) <;> omega
      refine Wp.callV (yy := (⟨"com/example/frugal_retrieval/frugalretrieval/index/LinkGraph", "target", "(II)I"⟩ : MethodName)) (zz := (⟨"com/example/frugal_retrieval/frugalretrieval/index/LinkGraph", "target", "(II)I"⟩ : MethodName)) (pc' := 174) (argsL := [(.int (Int32.ofNat d)), (.int (Int32.ofNat j))]) (a := g) (S := []) (rm_tar l Z a0 hw g s t k3 k1 [(.int (0 : Int32)), (.int (Int32.ofNat (0 + own_pop a))), (.int (Int32.ofNat (0 + own_pop a + own_pop b))), (.int (Int32.ofNat (0 + own_pop a + own_pop b + own_pop c)))] (own_put (own_put (own_put (List.replicate (own_pop a + own_pop b + own_pop c) (.int (0 : Int32))) 0 a) (0 + own_pop a) b) (0 + own_pop a + own_pop b) c) d j (own_st d a b c) (own_nth md j) (by omega) (by omega) sb (own_ss a b c d hd) fin h14 n0 O17) (O17.exa (i := 0) rfl) (hw _ (List.mem_of_getElem? (i := 22) rfl)) (hw _ (List.mem_of_getElem? (i := 23) rfl)) (hw _ (List.mem_of_getElem? (i := 25) rfl)) (hw _ (List.mem_of_getElem? (i := 24) rfl)) (hw _ (List.mem_of_getElem? (i := 10) rfl)) (hw _ (List.mem_of_getElem? (i := 26) rfl)) (nfS (hw _ (List.mem_of_getElem? (i := 25) rfl))) (by decide) (W := 0) rfl (lenOf pd_3 rfl) rfl rfl (Nat.le_refl 0) (by decide) (by decide) (by decide) (by decide) at_171 rfl ?_
      rintro _ _ ⟨rfl, rfl⟩
      show Wp _ _ _ _ _ _ _ _ _ _ _ _ 174 #[.val (.int p0), .val (.int p1), .val (.int p2), .val (.int (Int32.ofNat a)), .val (.int (Int32.ofNat b)), .val (.int (Int32.ofNat c)), .val (.int (Int32.ofNat (own_pop a + own_pop b + own_pop c))), .val (.ref t), .val (.ref s), .val (.ref g), .val (.int (Int32.ofNat d)), .val (.int (Int32.ofNat md)), .val (.int (Int32.ofNat (own_pop md))), .val (.int (Int32.ofNat j))] [(.int (own_nth md j))]
      refine Wp.iload (pc' := 176) at_174 rfl rfl ?_
      refine Wp.iload (pc' := 178) at_176 rfl rfl ?_
      refine Wp.callS (yy := (⟨"com/example/frugal_retrieval/frugalretrieval/index/LinkGraphTargetPinLaw", "nth", "(II)I"⟩ : MethodName)) (pc' := 181) (argsL := [(.int (Int32.ofNat md)), (.int (Int32.ofNat j))]) (S := [(.int (own_nth md j))]) (rm_nth l Z a0 hw md j hmd (by omega) h14 n0) (hw _ (List.mem_of_getElem? (i := 27) rfl)) (hw _ (List.mem_of_getElem? (i := 28) rfl)) (hw _ (List.mem_of_getElem? (i := 2) rfl)) (hw _ (List.mem_of_getElem? (i := 29) rfl)) (by decide) (W := 1) rfl (lenOf pd_3 rfl) rfl rfl (Nat.le_refl 1) (by decide) (by decide) (by decide) (by decide) at_178 rfl ?_
      rintro _ _ ⟨rfl, rfl⟩
      show Wp _ _ _ _ _ _ _ _ _ _ _ _ 181 #[.val (.int p0), .val (.int p1), .val (.int p2), .val (.int (Int32.ofNat a)), .val (.int (Int32.ofNat b)), .val (.int (Int32.ofNat c)), .val (.int (Int32.ofNat (own_pop a + own_pop b + own_pop c))), .val (.ref t), .val (.ref s), .val (.ref g), .val (.int (Int32.ofNat d)), .val (.int (Int32.ofNat md)), .val (.int (Int32.ofNat (own_pop md))), .val (.int (Int32.ofNat j))] [(.int (own_nth md j)), (.int (own_nth md j))]
      refine Wp.icmpN (pc' := 184) at_181 (not_not_intro rfl) rfl ?_
      refine Wp.iconst (z := (1 : Int32)) (pc' := 185) at_184 (by decide) rfl ?_
      refine Wp.goto (pc' := 189) at_185 (by decide) (by decide) ?_
      exact Wp.retS (t := .boolean) rfl (Or.inl rfl) rfl at_189 (by decide) (by decide) rfl
  rcases own_three p1 with e | e | e
  · refine Wp.irem (z := (0 : Int32)) (pc' := 116) at_115 (by decide) e rfl ?_
    refine Wp.istore (L' := #[.val (.int p0), .val (.int p1), .val (.int p2), .val (.int (Int32.ofNat a)), .val (.int (Int32.ofNat b)), .val (.int (Int32.ofNat c)), .val (.int (Int32.ofNat (own_pop a + own_pop b + own_pop c))), .val (.ref t), .val (.ref s), .val (.ref g), .val (.int (0 : Int32)), .unset, .unset, .unset]) (pc' := 118) at_116 rfl rfl ?_
    refine Wp.iload (pc' := 120) at_118 rfl rfl ?_
    refine Wp.ifN (pc' := 123) at_120 (not_not_intro rfl) rfl ?_
    refine Wp.iloadN (pc' := 124) at_123 rfl rfl ?_
    refine Wp.goto (pc' := 140) at_124 (by decide) (by decide) ?_
    exact tail 0 a (by omega) ha rfl
  · refine Wp.irem (z := (1 : Int32)) (pc' := 116) at_115 (by decide) e rfl ?_
    refine Wp.istore (L' := #[.val (.int p0), .val (.int p1), .val (.int p2), .val (.int (Int32.ofNat a)), .val (.int (Int32.ofNat b)), .val (.int (Int32.ofNat c)), .val (.int (Int32.ofNat (own_pop a + own_pop b + own_pop c))), .val (.ref t), .val (.ref s), .val (.ref g), .val (.int (1 : Int32)), .unset, .unset, .unset]) (pc' := 118) at_116 rfl rfl ?_
    refine Wp.iload (pc' := 120) at_118 rfl rfl ?_
    refine Wp.ifY (pc' := 127) at_120 (by decide) (by decide) (by decide) ?_
    refine Wp.iload (pc' := 129) at_127 rfl rfl ?_
    refine Wp.iconst (z := (1 : Int32)) (pc' := 130) at_129 (by decide) rfl ?_
    refine Wp.icmpN (pc' := 133) at_130 (not_not_intro rfl) rfl ?_
    refine Wp.iload (pc' := 135) at_133 rfl rfl ?_
    refine Wp.goto (pc' := 140) at_135 (by decide) (by decide) ?_
    exact tail 1 b (by omega) hb rfl
  · refine Wp.irem (z := (2 : Int32)) (pc' := 116) at_115 (by decide) e rfl ?_
    refine Wp.istore (L' := #[.val (.int p0), .val (.int p1), .val (.int p2), .val (.int (Int32.ofNat a)), .val (.int (Int32.ofNat b)), .val (.int (Int32.ofNat c)), .val (.int (Int32.ofNat (own_pop a + own_pop b + own_pop c))), .val (.ref t), .val (.ref s), .val (.ref g), .val (.int (2 : Int32)), .unset, .unset, .unset]) (pc' := 118) at_116 rfl rfl ?_
    refine Wp.iload (pc' := 120) at_118 rfl rfl ?_
    refine Wp.ifY (pc' := 127) at_120 (by decide) (by decide) (by decide) ?_
    refine Wp.iload (pc' := 129) at_127 rfl rfl ?_
    refine Wp.iconst (z := (1 : Int32)) (pc' := 130) at_129 (by decide) rfl ?_
    refine Wp.icmpY (pc' := 138) at_130 (by decide) (by decide) (by decide) ?_
    refine Wp.iload (pc' := 140) at_138 rfl rfl ?_
    exact tail 2 c (by omega) hc rfl

set_option maxRecDepth 65536 in
set_option maxHeartbeats 40000000 in
theorem comes_1 {Post : Tables → Env → Array Value → State → Outcome → State → Prop} (hpost : ∀ tb e args s v u, (limb_1_1.after args s (.returned v) u = true ∧ limb_1_2.after args s (.returned v) u = true ∧ True) → FrameEnd s (.returned v) u (Jvm.fieldLocs frame_1_writes args s ++ Jvm.arrayLocs frame_1_arrays args s ++ Jvm.staticLocs frame_1_statics s) 16 128 → Post tb e args s (.returned v) u) :
    ArmFor flags0 classFile x code maxLocals ret World_1 tables_1 room_1 Calls_1 rest_1 Pre_1 Post := by
  intro l hfl _ _ p e ha hc hk s m args below hf hA hF happ hP
  obtain ⟨hcalls, hrest, hpre⟩ := hP
  obtain ⟨-, -, -, hnamed, -, -, -, hat⟩ := (Spec.applies_iff hf).mp happ
  obtain ⟨hg, hn⟩ := and_e (Cond.before_iff.mp (show (Jvm.Cond.and given_1 narrow_1).before args s = true from hpre))
  obtain ⟨g0, q0⟩ := and_e hg
  obtain ⟨w0, w1, w2, rfl⟩ : ∃ w0 w1 w2 : Value, args = #[w0, w1, w2] := by
    have hs : args.size = 3 := by simpa [Cond.value, given_1] using g0
    obtain ⟨L⟩ := args
    match L, hs with
    | [w0, w1, w2], _ => exact ⟨w0, w1, w2, rfl⟩
  have hw := fun d (hd : d ∈ tables_1) => atoms_spec (ws := Jvm.Cond.code x code maxLocals ret :: tables_1) hat d (List.mem_cons_of_mem _ hd)
  obtain ⟨g1, q1⟩ := and_e q0
  obtain ⟨i0, e0⟩ := is_v g1
  obtain rfl : w0 = (.int i0) := Option.some.inj e0
  obtain ⟨g2, q2⟩ := and_e q1
  obtain ⟨i1, e1⟩ := is_v g2
  obtain rfl : w1 = (.int i1) := Option.some.inj e1
  obtain ⟨i2, e2⟩ := is_v q2
  obtain rfl : w2 = (.int i2) := Option.some.inj e2
  obtain ⟨n, o, h1, h2, h3, v, L, rfl, ⟨hv, N⟩, hq⟩ := (rm0 l s _ hw i0 i1 i2 s.heap s.heap.size (Nat.le_refl _)) tables_1 p e ha hc hk s m _ below hf ((Spec.applies_iff_loose hf).mp happ).1 ⟨rfl, State.Warmed39.refl s, rfl⟩ trivial
  subst hv
  refine ⟨n, _, h1, h2, h3, hpost _ _ _ _ _ _ ⟨Cond.after_iff.mpr rfl, Cond.after_iff.mpr (eq_i res_at (Term.int_eval (1)) rfl), trivial⟩ ⟨hq.1, hq.2.1, (hq.2.2.sift fun y hy => Or.inr (N y hy)).mono (by decide) (by decide)⟩⟩
theorem main_1_1 : Claimed_1_1 := comes_1 fun _ _ _ _ _ _ h hF => ⟨h.1, hF⟩
theorem main_1_2 : Claimed_1_2 := comes_1 fun _ _ _ _ _ _ h hF => ⟨h.2.1, hF⟩

end Jvm.Pilot.@@N@@
namespace Jvm.Pilot.@@N@@
open Jvm Jvm.ClassFile Sem Op Lib Jvm.Free Jvm.Stand Jvm.Pilot.@@N@@.Jvm.D
/-! MADE BY PROGRAM (witnessworld.py) out of the Statement's table words and the real class files: 9 classes; the members and pool entries that the words name. The judged class is class 1, her method 4. -/
namespace start1
open Jvm.ClassFile
def u (s : String) : CpInfo := .utf8 (stringToUtf16 s)
/-- a pool by its gaps: so many unusable entries, then the entry; so many at the end -/
def gap : Nat → List CpInfo → List CpInfo
  | 0, r => r
  | n + 1, r => .unusable :: gap n r
def poolList (es : List (Nat × CpInfo)) (last : Nat) : List CpInfo := es.foldr (fun e r => gap e.1 (e.2 :: r)) (gap last [])
def pool (es : List (Nat × CpInfo)) (last : Nat) : Array CpInfo := ⟨poolList es last⟩
def fileOf (pool : Array CpInfo) (this : Nat) (attrs : Array Attribute := #[]) (ms : Array MethodInfo := #[]) (fl : Nat := 33) (sup : Nat := 0) (ifs : Array Nat := #[]) (fds : Array FieldInfo := #[]) : ClassFile where
  minorVersion := 0
  majorVersion := 65
  constantPool := pool
  accessFlags := fl
  thisClass := this
  superClass := sup
  interfaces := ifs
  fields := fds
  methods := ms
  attributes := attrs
def plain (name : String) (sup : Option ClassId) : Class where
  name := name
  kind := .ordinary
  loader := none
  accessFlags := 33
  super := sup
  interfaces := #[]
  cf := none
  fields := #[]
  methods := #[]
  instanceTypes := #[]
  staticTypes := #[]
  resolved := #[]
  callSites := []
  init := .initialized
  statics := none
  mirror := none

def pool0 : Array CpInfo := pool [(5, u "<init>"), (0, u "()V"), (1, .class_ 10), (1, u "java/lang/Object")] 113

def k0c0 : Code := { maxStack := 0, maxLocals := 1, code := object_method_1_code, exceptionTable := #[], attributes := #[] }
def k0m0 : Method := { name := "<init>", desc := "()V", sig := { parameters := [], returnType := none }, accessFlags := 1, code := some k0c0 }
/-- java/lang/Object -/
def k0 : Class := { plain "java/lang/Object" none with
  accessFlags := 33
  interfaces := #[]
  cf := some (fileOf pool0 8 #[] #[{ accessFlags := 1, nameIndex := 5, descriptorIndex := 6, attributes := #[] }] 33 0 #[] #[])
  fields := #[]
  methods := #[k0m0]
  instanceTypes := #[]
  staticTypes := #[]
  resolved := Array.replicate 124 none
  statics := none }

def pool1 : Array CpInfo := pool [(2, .class_ 4), (1, u "java/lang/Object"), (0, u "<init>"), (0, u "()V"), (0, .methodref 8 9), (0, .class_ 10), (0, .nameAndType 11 12), (0, u "com/example/frugal_retrieval/frugalretrieval/index/LinkGraphTargetPinLaw"), (0, u "pop"), (0, u "(I)I"), (0, .methodref 8 14), (0, .nameAndType 15 16), (0, u "put"), (0, u "([III)I"), (0, .class_ 18), (0, u "com/example/frugal_retrieval/frugalretrieval/index/LinkGraph"), (0, .methodref 17 20), (0, .nameAndType 5 21), (0, u "([I[I)V"), (0, .integer 2147483647), (0, .methodref 17 24), (0, .nameAndType 25 26), (0, u "target"), (0, u "(II)I"), (0, .methodref 8 28), (0, .nameAndType 29 26), (0, u "nth"), (3, u "law"), (0, u "(III)Z")] 4

def k1m0 : Method := { name := "<init>", desc := "()V", sig := { parameters := [], returnType := none }, accessFlags := 2, code := none }
def k1c1 : Code := { maxStack := 3, maxLocals := 1, code := method_2_code, exceptionTable := #[], attributes := #[] }
def k1m1 : Method := { name := "pop", desc := "(I)I", sig := { parameters := [.int], returnType := some .int }, accessFlags := 10, code := some k1c1 }
def k1c2 : Code := { maxStack := 3, maxLocals := 4, code := method_3_code, exceptionTable := #[], attributes := #[] }
def k1m2 : Method := { name := "put", desc := "([III)I", sig := { parameters := [(.array .int), .int, .int], returnType := some .int }, accessFlags := 10, code := some k1c2 }
def k1c3 : Code := { maxStack := 2, maxLocals := 3, code := method_4_code, exceptionTable := #[], attributes := #[] }
def k1m3 : Method := { name := "nth", desc := "(II)I", sig := { parameters := [.int, .int], returnType := some .int }, accessFlags := 10, code := some k1c3 }
def k1c4 : Code := { maxStack := 5, maxLocals := 14, code := code, exceptionTable := #[], attributes := #[] }
def k1m4 : Method := { name := "law", desc := "(III)Z", sig := { parameters := [.int, .int, .int], returnType := some .boolean }, accessFlags := 9, code := some k1c4 }
/-- com/example/frugal_retrieval/frugalretrieval/index/LinkGraphTargetPinLaw -/
def k1 : Class := { plain "com/example/frugal_retrieval/frugalretrieval/index/LinkGraphTargetPinLaw" (some 0) with
  accessFlags := 49
  interfaces := #[]
  cf := some (fileOf pool1 8 #[] #[{ accessFlags := 2, nameIndex := 5, descriptorIndex := 6, attributes := #[] }, { accessFlags := 10, nameIndex := 11, descriptorIndex := 12, attributes := #[] }, { accessFlags := 10, nameIndex := 15, descriptorIndex := 16, attributes := #[] }, { accessFlags := 10, nameIndex := 29, descriptorIndex := 26, attributes := #[] }, { accessFlags := 9, nameIndex := 33, descriptorIndex := 34, attributes := #[] }] 49 2 #[] #[])
  fields := #[]
  methods := #[k1m0, k1m1, k1m2, k1m3, k1m4]
  instanceTypes := #[]
  staticTypes := #[]
  resolved := Array.replicate 39 none
  statics := none }

def pool2 : Array CpInfo := pool [(1, .methodref 2 3), (0, .class_ 4), (0, .nameAndType 5 6), (0, u "java/lang/Object"), (0, u "<init>"), (0, u "()V"), (0, .fieldref 8 9), (0, .class_ 10), (0, .nameAndType 11 12), (0, u "com/example/frugal_retrieval/frugalretrieval/index/LinkGraph"), (0, u "starts"), (0, u "[I"), (0, .fieldref 8 14), (0, .nameAndType 15 12), (0, u "targets"), (27, u "([I[I)V"), (23, u "(II)I"), (13, u "target")] 21

def k2c0 : Code := { maxStack := 2, maxLocals := 3, code := prog_48_method_1_code, exceptionTable := #[], attributes := #[] }
def k2m0 : Method := { name := "<init>", desc := "([I[I)V", sig := { parameters := [(.array .int), (.array .int)], returnType := none }, accessFlags := 0, code := some k2c0 }
def k2c1 : Code := { maxStack := 3, maxLocals := 3, code := prog_48_method_7_code, exceptionTable := #[], attributes := #[] }
def k2m1 : Method := { name := "target", desc := "(II)I", sig := { parameters := [.int, .int], returnType := some .int }, accessFlags := 1, code := some k2c1 }
/-- com/example/frugal_retrieval/frugalretrieval/index/LinkGraph -/
def k2 : Class := { plain "com/example/frugal_retrieval/frugalretrieval/index/LinkGraph" (some 0) with
  accessFlags := 49
  interfaces := #[]
  cf := some (fileOf pool2 8 #[] #[{ accessFlags := 0, nameIndex := 5, descriptorIndex := 43, attributes := #[] }, { accessFlags := 1, nameIndex := 81, descriptorIndex := 67, attributes := #[] }] 49 2 #[] #[{ accessFlags := 18, nameIndex := 11, descriptorIndex := 12, attributes := #[] }, { accessFlags := 18, nameIndex := 15, descriptorIndex := 12, attributes := #[] }])
  fields := #[{ name := "starts", type := (.array .int), accessFlags := 18, slot := 0, constantValue := 0 }, { name := "targets", type := (.array .int), accessFlags := 18, slot := 1, constantValue := 0 }]
  methods := #[k2m0, k2m1]
  instanceTypes := #[(.array .int), (.array .int)]
  staticTypes := #[]
  resolved := Array.replicate 103 none
  statics := none }

def pool3 : Array CpInfo := pool [(1, u "java/lang/Cloneable"), (0, .class_ 1), (0, u "java/lang/Object"), (0, .class_ 3)] 3

/-- java/lang/Cloneable -/
def k3 : Class := { plain "java/lang/Cloneable" (some 0) with
  accessFlags := 1537
  interfaces := #[]
  cf := some (fileOf pool3 2 #[] #[] 1537 4 #[] #[])
  fields := #[]
  methods := #[]
  instanceTypes := #[]
  staticTypes := #[]
  resolved := Array.replicate 8 none
  statics := none }

def pool4 : Array CpInfo := pool [(1, u "java/io/Serializable"), (0, .class_ 1), (0, u "java/lang/Object"), (0, .class_ 3)] 3

/-- java/io/Serializable -/
def k4 : Class := { plain "java/io/Serializable" (some 0) with
  accessFlags := 1537
  interfaces := #[]
  cf := some (fileOf pool4 2 #[] #[] 1537 4 #[] #[])
  fields := #[]
  methods := #[]
  instanceTypes := #[]
  staticTypes := #[]
  resolved := Array.replicate 8 none
  statics := none }

/-- the primitive byte -/
def k5 : Class := { plain "byte" none with kind := .primitive 'B', accessFlags := 0x411 }
/-- [B -/
def k6 : Class := { plain "[B" (some 0) with kind := .array 5 .byte, interfaces := #[3, 4], accessFlags := 1041 }

/-- the primitive int -/
def k7 : Class := { plain "int" none with kind := .primitive 'I', accessFlags := 0x411 }
/-- [I -/
def k8 : Class := { plain "[I" (some 0) with kind := .array 7 .int, interfaces := #[3, 4], accessFlags := 1041 }

def heap : Heap := #[]
def classes : Array Class := #[k0, k1, k2, k3, k4, k5, k6, k7, k8]
def interned : List (Array UInt16 × Addr) := []
def slotsUsed : Nat := 0
def theMethod : MethodId := ⟨1, 4⟩
def args0 : Array Value := #[.int 5, .int 300, .int 7]
def aboutOver (below : List Frame) : State where
  vm := { classes := classes, interned := interned.toArray }
  heap := heap
  slotsUsed := slotsUsed
  threads := #[{ frames := .invoking theMethod args0 :: below }]
def below0 : List Frame := [.native { method := ⟨0, 0⟩, args := #[] }]
def about1 : State := aboutOver below0
def p0 : Program := .bare "" "" ""
def e0 : Env := launch0.env 0 0 0
theorem w_frames : about1.frames = Frame.invoking theMethod args0 :: below0 := rfl
set_option maxRecDepth 65536 in
theorem w_args : argsFit about1.vm theMethod args0 = true := by decide +kernel
set_option maxRecDepth 65536 in
theorem w_heap : heapFits about1 = true := by decide +kernel
set_option maxRecDepth 65536 in
theorem w_runnable : about1.curStatus? = some .runnable := by decide +kernel
set_option maxRecDepth 65536 in
theorem w_alone : about1.alone = true := by decide +kernel
set_option maxRecDepth 65536 in
theorem w_named : about1.methodNamed? x = some theMethod := by decide +kernel
set_option maxRecDepth 65536 in
theorem w_hears : about1.hears theMethod below0 = true := by decide +kernel
set_option maxRecDepth 65536 in
theorem w_ripe : about1.ripe theMethod args0 below0 = true := by decide +kernel
theorem w_running : about1.status = .running := rfl
set_option maxRecDepth 65536 in
theorem w_room : about1.hasRoom e0.platform room_1 = true :=
  launch0.hasRoom_least _ room_1 (by decide +kernel) (by decide +kernel) (by decide +kernel) (by decide +kernel) (by decide +kernel) (by decide +kernel)
theorem allAtoms_all (ts : List Jvm.Cond) (a : Array Jvm.Value) (st : Jvm.State) : (allAtoms ts).before a st = ts.all (fun c => c.before a st) := by
  induction ts with
  | nil => rfl
  | cons c t ih =>
    show (Jvm.Cond.and c (allAtoms t)).before a st = _
    rw [Jvm.Cond.before_and, ih, List.all_cons]
def words1 : List Jvm.Cond := Jvm.Cond.code x code maxLocals ret :: tables_1
/-- a 'code' word, met by the world's own term for the bytes: nothing is compared byte by byte -/
theorem code_word {y : MethodName} {bytes : ByteArray} {mx : Nat} {rt : Option FieldType} {a : Array Value} {s : State} {m : MethodId} {meth : Method} {c : Code} (h1 : s.methodNamed? y = some m) (h2 : s.vm.method? m = some meth) (h3 : meth.code = some c) (h4 : c.code = bytes)
    (h5 : (c.maxLocals == mx && c.exceptionTable.isEmpty && decide (c.maxStack ≤ mostOperands) && decide (meth.sig.returnType = rt) && !meth.locks && decide (parseMethodDescriptor y.desc = some meth.sig)) = true) : (Jvm.Cond.code y bytes mx rt).before a s = true := by
  simp only [Bool.and_eq_true, beq_iff_eq, Bool.not_eq_true', decide_eq_true_eq] at h5
  obtain ⟨⟨⟨⟨⟨g1, g2⟩, g3⟩, g4⟩, g5⟩, g6⟩ := h5
  simp [Cond.before, Cond.holds, Cond.value, h1, h2, h3, h4, g1, g2, g3, g4, g5, g6]
def isCode : Jvm.Cond → Bool
  | .code _ _ _ _ => true
  | _ => false
theorem all_split {L : List Jvm.Cond} {P : Jvm.Cond → Bool} (h1 : L.all (fun c => isCode c || P c) = true) (h2 : ∀ c ∈ L.filter isCode, P c = true) : L.all P = true := by
  refine List.all_eq_true.mpr fun c hc => ?_
  have h := List.all_eq_true.mp h1 c hc
  rcases Bool.eq_false_or_eq_true (isCode c) with hi | hi
  · exact h2 c (List.mem_filter.mpr ⟨hc, hi⟩)
  · simpa [hi] using h
set_option maxRecDepth 65536 in
theorem w_c0 : (Jvm.Cond.code x code maxLocals ret).before args0 about1 = true := code_word (m := ⟨1, 4⟩) (meth := k1m4) (c := k1c4) (by decide +kernel) rfl rfl rfl (by decide +kernel)
set_option maxRecDepth 65536 in
theorem w_c1 : (Jvm.Cond.code ({ cls := "com/example/frugal_retrieval/frugalretrieval/index/LinkGraphTargetPinLaw", name := "pop", desc := "(I)I" } : Jvm.MethodName) method_2_code (1 : Nat) (Option.some Jvm.ClassFile.FieldType.int)).before args0 about1 = true := code_word (m := ⟨1, 1⟩) (meth := k1m1) (c := k1c1) (by decide +kernel) rfl rfl rfl (by decide +kernel)
set_option maxRecDepth 65536 in
theorem w_c2 : (Jvm.Cond.code ({ cls := "com/example/frugal_retrieval/frugalretrieval/index/LinkGraphTargetPinLaw", name := "put", desc := "([III)I" } : Jvm.MethodName) method_3_code (4 : Nat) (Option.some Jvm.ClassFile.FieldType.int)).before args0 about1 = true := code_word (m := ⟨1, 2⟩) (meth := k1m2) (c := k1c2) (by decide +kernel) rfl rfl rfl (by decide +kernel)
set_option maxRecDepth 65536 in
theorem w_c3 : (Jvm.Cond.code ({ cls := "com/example/frugal_retrieval/frugalretrieval/index/LinkGraph", name := "<init>", desc := "([I[I)V" } : Jvm.MethodName) prog_48_method_1_code (3 : Nat) (Option.none : Option Jvm.ClassFile.FieldType)).before args0 about1 = true := code_word (m := ⟨2, 0⟩) (meth := k2m0) (c := k2c0) (by decide +kernel) rfl rfl rfl (by decide +kernel)
set_option maxRecDepth 65536 in
theorem w_c4 : (Jvm.Cond.code ({ cls := "java/lang/Object", name := "<init>", desc := "()V" } : Jvm.MethodName) object_method_1_code (1 : Nat) (Option.none : Option Jvm.ClassFile.FieldType)).before args0 about1 = true := code_word (m := ⟨0, 0⟩) (meth := k0m0) (c := k0c0) (by decide +kernel) rfl rfl rfl (by decide +kernel)
set_option maxRecDepth 65536 in
theorem w_c5 : (Jvm.Cond.code ({ cls := "com/example/frugal_retrieval/frugalretrieval/index/LinkGraph", name := "target", desc := "(II)I" } : Jvm.MethodName) prog_48_method_7_code (3 : Nat) (Option.some Jvm.ClassFile.FieldType.int)).before args0 about1 = true := code_word (m := ⟨2, 1⟩) (meth := k2m1) (c := k2c1) (by decide +kernel) rfl rfl rfl (by decide +kernel)
set_option maxRecDepth 65536 in
theorem w_c6 : (Jvm.Cond.code ({ cls := "com/example/frugal_retrieval/frugalretrieval/index/LinkGraphTargetPinLaw", name := "nth", desc := "(II)I" } : Jvm.MethodName) method_4_code (3 : Nat) (Option.some Jvm.ClassFile.FieldType.int)).before args0 about1 = true := code_word (m := ⟨1, 3⟩) (meth := k1m3) (c := k1c3) (by decide +kernel) rfl rfl rfl (by decide +kernel)
def codes1 : List Jvm.Cond := [Jvm.Cond.code x code maxLocals ret, Jvm.Cond.code ({ cls := "com/example/frugal_retrieval/frugalretrieval/index/LinkGraphTargetPinLaw", name := "pop", desc := "(I)I" } : Jvm.MethodName) method_2_code (1 : Nat) (Option.some Jvm.ClassFile.FieldType.int), Jvm.Cond.code ({ cls := "com/example/frugal_retrieval/frugalretrieval/index/LinkGraphTargetPinLaw", name := "put", desc := "([III)I" } : Jvm.MethodName) method_3_code (4 : Nat) (Option.some Jvm.ClassFile.FieldType.int), Jvm.Cond.code ({ cls := "com/example/frugal_retrieval/frugalretrieval/index/LinkGraph", name := "<init>", desc := "([I[I)V" } : Jvm.MethodName) prog_48_method_1_code (3 : Nat) (Option.none : Option Jvm.ClassFile.FieldType), Jvm.Cond.code ({ cls := "java/lang/Object", name := "<init>", desc := "()V" } : Jvm.MethodName) object_method_1_code (1 : Nat) (Option.none : Option Jvm.ClassFile.FieldType), Jvm.Cond.code ({ cls := "com/example/frugal_retrieval/frugalretrieval/index/LinkGraph", name := "target", desc := "(II)I" } : Jvm.MethodName) prog_48_method_7_code (3 : Nat) (Option.some Jvm.ClassFile.FieldType.int), Jvm.Cond.code ({ cls := "com/example/frugal_retrieval/frugalretrieval/index/LinkGraphTargetPinLaw", name := "nth", desc := "(II)I" } : Jvm.MethodName) method_4_code (3 : Nat) (Option.some Jvm.ClassFile.FieldType.int)]
set_option maxRecDepth 65536 in
theorem codes_eq : words1.filter isCode = codes1 := rfl
theorem w_codes : ∀ c ∈ words1.filter isCode, c.before args0 about1 = true := by
  rw [codes_eq]
  intro c hc
  simp only [codes1, List.mem_cons, List.not_mem_nil, or_false] at hc
  rcases hc with rfl | rfl | rfl | rfl | rfl | rfl | rfl
  · exact w_c0
  · exact w_c1
  · exact w_c2
  · exact w_c3
  · exact w_c4
  · exact w_c5
  · exact w_c6
set_option maxRecDepth 65536 in
theorem w_t1 : (words1.take 24).all (fun c => isCode c || c.before args0 about1) = true := by decide +kernel
set_option maxRecDepth 65536 in
theorem w_t2 : (words1.drop 24).all (fun c => isCode c || c.before args0 about1) = true := by decide +kernel
theorem w_tables : (allAtoms (Jvm.Cond.code x code maxLocals ret :: tables_1)).before args0 about1 = true := by
  rw [allAtoms_all]
  show words1.all (fun c => c.before args0 about1) = true
  refine all_split ?_ w_codes
  rw [← List.take_append_drop 24 words1, List.all_append, w_t1, w_t2]
  rfl
set_option maxRecDepth 65536 in
theorem w_case : (Jvm.Cond.and given_1 narrow_1).before args0 about1 = true := by decide +kernel
theorem w_applies : (headSpec (Jvm.Cond.code x code maxLocals ret :: tables_1) room_1).applies x e0.platform about1 = true :=
  (Spec.applies_iff w_frames).mpr ⟨w_running, w_runnable, w_alone, w_named, w_hears, w_ripe, w_room, w_tables⟩
theorem atStart : AtStart classFile x code maxLocals ret World_1 tables_1 room_1 Calls_1 rest_1 Pre_1 launch0 p0 e0 about1 theMethod args0 below0 :=
  ⟨lists_1, trivial, launch0.admits_env _ _ _, launch0.least_env, fairChoices_fair.cas, fairChoices_fair.clock, w_frames, w_args, w_heap, w_applies, trivial, trivial, w_case⟩
end start1
theorem witness_1 : WitnessClaimed_1 := ⟨start1.p0, start1.e0, start1.about1, start1.theMethod, start1.args0, start1.below0, start1.atStart⟩
end Jvm.Pilot.@@N@@
