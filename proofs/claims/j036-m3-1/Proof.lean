import JvmDerived
import JvmDerived.Pilot.@@N@@Statement
import JvmDerived.Pilot.@@N@@Code
set_option linter.unusedVariables false
set_option linter.unusedSimpArgs false
namespace Jvm.OwnKit
open Sem ClassFile Op Lib Jvm.Stand Jvm.Free Jvm.LawKit Jvm.RoadKit
/-! A small program logic over the library's laws of one family: Wp says that from a frame on the method comes back with Q. -/
def Cx (p : Program) (s : State) (m : MethodId) (meth : Method) (c : Code) (Z : State) (my : MethodName) (B : ByteArray) (ml : Nat) (ret : Option FieldType) : Prop :=
  p.tables.exec = Jvm.exec ∧ c.code = B ∧ c.maxLocals = ml ∧ Z.Warmed39 s.vm ∧ s.vm.findClass my.cls = some m.cls ∧ meth.name = my.name ∧ meth.sig.returnType = ret ∧ meth.locks = false
def Wp (l : Launch) (Z : State) (R : Room) (my : MethodName) (B : ByteArray) (ml : Nat) (ret : Option FieldType) (n0 : Nat) (Q : Option Value → Heap → Prop) (h : Heap) (cells slots pc : Nat) (L : Array Slot) (S : List Value) : Prop :=
  ∀ (p : Program) (e : Env) (s : State) (m : MethodId) (args : Array Value) (below : List Frame) (meth : Method) (c : Code) (T : State) (locs : List Loc),
    Cx p s m meth c Z my B ml ret → Stand p l e R s m args below meth c T locs cells slots → T.heap = h → Fr n0 locs →
    ∃ (s₂ : State) (o : Outcome), Steps p.tables e below (T.setTop (mkF m pc L S)) s₂ ∧ s₂.status = .running ∧ Ended s₂ below o ∧ ∃ v L', o = .returned v ∧ (Q v s₂.heap ∧ Fr n0 L') ∧ FrameEnd s o s₂ L' R.cells R.slots
/-- the contract of a method at given arguments and heap -/
def Met (l : Launch) (Z : State) (my : MethodName) (B : ByteArray) (ml : Nat) (ret : Option FieldType) (rm : Room) (as : Array Value) (h0 : Heap) (n0 : Nat) (Q : Option Value → Heap → Prop) : Prop :=
  ∀ ws : List Jvm.Cond, MetFree l my (head1 (Jvm.Cond.code my B ml ret :: ws) rm) (fun a U => a = as ∧ Z.Warmed39 U.vm ∧ U.heap = h0) (fun _ _ _ _ _ => True)
    (fun _ U o U' => ∃ v L, o = .returned v ∧ (Q v U'.heap ∧ Fr n0 L) ∧ FrameEnd U o U' L rm.cells rm.slots)
section Base
variable {l : Launch} {Z : State} {R : Room} {my : MethodName} {B : ByteArray} {ml : Nat} {ret : Option FieldType} {n0 : Nat} {Q : Option Value → Heap → Prop} {h : Heap} {cells slots pc : Nat} {L : Array Slot} {S : List Value} {a0 : Array Value}
theorem Met.of {as : Array Value} {L0 : Array Slot} (hpl : plainName my.cls = true) (ef : ∀ m, entryFrame m as ml = mkF m 0 L0 []) (body : Wp l Z R my B ml ret n0 Q h 0 0 0 L0 []) : Met l Z my B ml ret R as h n0 Q := by
  intro ws
  refine MetFree.of_bodySF (plainFor_of_name hpl) hisR ?_
  intro p e s m args below meth c s₁ Bd hml0 hP hK
  obtain ⟨rfl, hZ, hh⟩ := hP
  have X0 := Stand.of_body Bd
  have e0 : s₁.heap = h := by rw [← hh, Bd.state]; rfl
  obtain ⟨s₂, o, k1, k2⟩ := body p e s m _ below meth c s₁ [] ⟨Bd.exec, Bd.bytes, hml0, hZ, findClass_of_methodNamed Bd.named, (name_of_methodNamed Bd.named Bd.method).1, Bd.returns, Bd.notSynchronized⟩ X0 e0 (Fr.nil n0)
  exact ⟨s₂, o, castTop (ef m) k1, k2⟩
theorem Met.mono {rm : Room} {as : Array Value} {Q' : Option Value → Heap → Prop} (M : Met l Z my B ml ret rm as h n0 Q) (hq : ∀ v h', Q v h' → Q' v h') : Met l Z my B ml ret rm as h n0 Q' := by
  intro ws p e ha hc hk s m args below hf happ hP hK
  obtain ⟨n, o, h1, h2, h3, v, L, rfl, ⟨q1, q2⟩, q3⟩ := M ws p e ha hc hk s m args below hf happ hP hK
  exact ⟨n, _, h1, h2, h3, v, L, rfl, ⟨hq _ _ q1, q2⟩, q3⟩
theorem Wp.mono {Q' : Option Value → Heap → Prop} (W : Wp l Z R my B ml ret n0 Q h cells slots pc L S) (hq : ∀ v h', Q v h' → Q' v h') : Wp l Z R my B ml ret n0 Q' h cells slots pc L S := by
  intro p e s m args below meth c T locs K X eT N
  obtain ⟨s₂, o, k1, k2, k3, v, L', k4, k5, k6⟩ := W p e s m args below meth c T locs K X eT N
  exact ⟨s₂, o, k1, k2, k3, v, L', k4, ⟨hq _ _ k5.1, k5.2⟩, k6⟩
/-- the law's own body may end within any frame -/
theorem Wp.plain {pc' : Nat} {L' : Array Slot} {S' : List Value}
    (st : ∀ {p : Program} {e : Env} {s : State} {m : MethodId} {args : Array Value} {below : List Frame} {meth : Method} {c : Code} {T : State} {locs : List Loc}, Cx p s m meth c Z my B ml ret → Stand p l e R s m args below meth c T locs cells slots → T.heap = h → ∀ target, Steps p.tables e below (T.setTop (mkF m pc' L' S')) target → Steps p.tables e below (T.setTop (mkF m pc L S)) target)
    (r : Wp l Z R my B ml ret n0 Q h cells slots pc' L' S') : Wp l Z R my B ml ret n0 Q h cells slots pc L S := by
  intro p e s m args below meth c T locs K X eT N
  obtain ⟨s₂, o, k1, k2⟩ := r p e s m args below meth c T locs K X eT N
  exact ⟨s₂, o, st K X eT _ k1, k2⟩
theorem Wp.moved {pc' : Nat} {L' : Array Slot} {S' : List Value}
    (st : ∀ {p : Program} {e : Env} {s : State} {m : MethodId} {args : Array Value} {below : List Frame} {meth : Method} {c : Code} {T : State} {locs : List Loc}, Cx p s m meth c Z my B ml ret → Stand p l e R s m args below meth c T locs cells slots → T.heap = h → ∃ T', Stand p l e R s m args below meth c T' locs cells slots ∧ T'.heap = h ∧ ∀ target, Steps p.tables e below (T'.setTop (mkF m pc' L' S')) target → Steps p.tables e below (T.setTop (mkF m pc L S)) target)
    (r : Wp l Z R my B ml ret n0 Q h cells slots pc' L' S') : Wp l Z R my B ml ret n0 Q h cells slots pc L S := by
  intro p e s m args below meth c T locs K X eT N
  obtain ⟨T', X', e', st'⟩ := st K X eT
  obtain ⟨s₂, o, k1, k2⟩ := r p e s m args below meth c T' locs K X' e' N
  exact ⟨s₂, o, st' _ k1, k2⟩
/-! plain steps -/
theorem Wp.iloadN {k : Fin 4} {v : Int32} {pc' : Nat} (hd : decode B pc = .ok (.iload_n k, 1)) (hl : L[k.val]? = some (.val (.int v))) (hp : pc + 1 = pc') (r : Wp l Z R my B ml ret n0 Q h cells slots pc' L (.int v :: S)) : Wp l Z R my B ml ret n0 Q h cells slots pc L S := by
  subst hp; exact Wp.plain (fun K X _ target kt => XS.iloadN X.here K.1 rfl (hb K.2.1 hd) hl kt) r
theorem Wp.iload {k : Nat} {v : Int32} {pc' : Nat} (hd : decode B pc = .ok (.iload k, 2)) (hl : L[k]? = some (.val (.int v))) (hp : pc + 2 = pc') (r : Wp l Z R my B ml ret n0 Q h cells slots pc' L (.int v :: S)) : Wp l Z R my B ml ret n0 Q h cells slots pc L S := by
  subst hp; exact Wp.plain (fun K X _ target kt => XS.iload X.here K.1 rfl (hb K.2.1 hd) hl kt) r
theorem Wp.lloadN {k : Fin 4} {v : Int64} {pc' : Nat} (hd : decode B pc = .ok (.lload_n k, 1)) (hl : L[k.val]? = some (.val (.long v))) (hp : pc + 1 = pc') (r : Wp l Z R my B ml ret n0 Q h cells slots pc' L (.long v :: S)) : Wp l Z R my B ml ret n0 Q h cells slots pc L S := by
  subst hp; exact Wp.plain (fun K X _ target kt => XT.lloadN X.here K.1 rfl (hb K.2.1 hd) hl kt) r
theorem Wp.lload {k : Nat} {v : Int64} {pc' : Nat} (hd : decode B pc = .ok (.lload k, 2)) (hl : L[k]? = some (.val (.long v))) (hp : pc + 2 = pc') (r : Wp l Z R my B ml ret n0 Q h cells slots pc' L (.long v :: S)) : Wp l Z R my B ml ret n0 Q h cells slots pc L S := by
  subst hp; exact Wp.plain (fun K X _ target kt => XT.lload X.here K.1 rfl (hb K.2.1 hd) hl kt) r
theorem Wp.aloadN {k : Fin 4} {v : Value} {pc' : Nat} (hd : decode B pc = .ok (.aload_n k, 1)) (hl : L[k.val]? = some (.val v)) (hv : v.isRef = true) (hp : pc + 1 = pc') (r : Wp l Z R my B ml ret n0 Q h cells slots pc' L (v :: S)) : Wp l Z R my B ml ret n0 Q h cells slots pc L S := by
  subst hp; exact Wp.plain (fun K X _ target kt => XS.aloadN X.here K.1 rfl (hb K.2.1 hd) hl hv kt) r
theorem Wp.aload {k : Nat} {v : Value} {pc' : Nat} (hd : decode B pc = .ok (.aload k, 2)) (hl : L[k]? = some (.val v)) (hv : v.isRef = true) (hp : pc + 2 = pc') (r : Wp l Z R my B ml ret n0 Q h cells slots pc' L (v :: S)) : Wp l Z R my B ml ret n0 Q h cells slots pc L S := by
  subst hp; exact Wp.plain (fun K X _ target kt => XS.aload X.here K.1 rfl (hb K.2.1 hd) hl hv kt) r
theorem Wp.iconst {i : Int} {z : Int32} {pc' : Nat} (hd : decode B pc = .ok (.iconst i, 1)) (hz : Int32.ofInt i = z) (hp : pc + 1 = pc') (r : Wp l Z R my B ml ret n0 Q h cells slots pc' L (.int z :: S)) : Wp l Z R my B ml ret n0 Q h cells slots pc L S := by
  subst hp hz; exact Wp.plain (fun K X _ target kt => XS.iconst X.here K.1 rfl (hb K.2.1 hd) kt) r
theorem Wp.bipush {i : Int} {z : Int32} {pc' : Nat} (hd : decode B pc = .ok (.bipush i, 2)) (hz : (Int8.ofInt i).toInt32 = z) (hp : pc + 2 = pc') (r : Wp l Z R my B ml ret n0 Q h cells slots pc' L (.int z :: S)) : Wp l Z R my B ml ret n0 Q h cells slots pc L S := by
  subst hp hz; exact Wp.plain (fun K X _ target kt => XS.bipush X.here K.1 rfl (hb K.2.1 hd) kt) r
theorem Wp.sipush {i : Int} {z : Int32} {pc' : Nat} (hd : decode B pc = .ok (.sipush i, 3)) (hz : (Int16.ofInt i).toInt32 = z) (hp : pc + 3 = pc') (r : Wp l Z R my B ml ret n0 Q h cells slots pc' L (.int z :: S)) : Wp l Z R my B ml ret n0 Q h cells slots pc L S := by
  subst hp hz; exact Wp.plain (fun K X _ target kt => XS.sipush X.here K.1 rfl (hb K.2.1 hd) kt) r
theorem Wp.lconst {k : Fin 2} {z : Int64} {pc' : Nat} (hd : decode B pc = .ok (.lconst k, 1)) (hz : Int64.ofNat k = z) (hp : pc + 1 = pc') (r : Wp l Z R my B ml ret n0 Q h cells slots pc' L (.long z :: S)) : Wp l Z R my B ml ret n0 Q h cells slots pc L S := by
  subst hp hz; exact Wp.plain (fun K X _ target kt => XT.lconst X.here K.1 rfl (hb K.2.1 hd) kt) r
theorem Wp.aconstNull {pc' : Nat} (hd : decode B pc = .ok (.aconst_null, 1)) (hp : pc + 1 = pc') (r : Wp l Z R my B ml ret n0 Q h cells slots pc' L (.null :: S)) : Wp l Z R my B ml ret n0 Q h cells slots pc L S := by
  subst hp; exact Wp.plain (fun K X _ target kt => XS.aconstNull X.here K.1 rfl (hb K.2.1 hd) kt) r
theorem Wp.ldcInt {index : Nat} {v : Int32} {pc' : Nat} (w : (Jvm.Cond.constant my.cls index v).before a0 Z = true) (hd : decode B pc = .ok (.ldc index, 2)) (hp : pc + 2 = pc') (r : Wp l Z R my B ml ret n0 Q h cells slots pc' L (.int v :: S)) : Wp l Z R my B ml ret n0 Q h cells slots pc L S := by
  subst hp; exact Wp.plain (fun K X _ target kt => X.ldcInt K.1 K.2.2.2.2.1 (mv K.2.2.2.1 w) (g := mkF _ pc L S) rfl (hb K.2.1 hd) target kt) r
theorem Wp.ldc2Long {index : Nat} {v : Int64} {pc' : Nat} (w : (Jvm.Cond.constantLong my.cls index v).before a0 Z = true) (hd : decode B pc = .ok (.ldc2_w index, 3)) (hp : pc + 3 = pc') (r : Wp l Z R my B ml ret n0 Q h cells slots pc' L (.long v :: S)) : Wp l Z R my B ml ret n0 Q h cells slots pc L S := by
  subst hp; exact Wp.plain (fun K X _ target kt => X.ldc2Long K.1 K.2.2.2.2.1 (mv K.2.2.2.1 w) (g := mkF _ pc L S) rfl (hb K.2.1 hd) target kt) r
theorem Wp.istoreN {k : Fin 4} {v : Int32} {L' : Array Slot} {pc' : Nat} (hd : decode B pc = .ok (.istore_n k, 1)) (hl : storeLocals L k.val (.int v) = some L') (hp : pc + 1 = pc') (r : Wp l Z R my B ml ret n0 Q h cells slots pc' L' S) : Wp l Z R my B ml ret n0 Q h cells slots pc L (.int v :: S) := by
  subst hp; exact Wp.plain (fun K X _ target kt => XS.istoreN X.here K.1 rfl (hb K.2.1 hd) rfl hl kt) r
theorem Wp.istore {k : Nat} {v : Int32} {L' : Array Slot} {pc' : Nat} (hd : decode B pc = .ok (.istore k, 2)) (hl : storeLocals L k (.int v) = some L') (hp : pc + 2 = pc') (r : Wp l Z R my B ml ret n0 Q h cells slots pc' L' S) : Wp l Z R my B ml ret n0 Q h cells slots pc L (.int v :: S) := by
  subst hp; exact Wp.plain (fun K X _ target kt => XS.istore X.here K.1 rfl (hb K.2.1 hd) rfl hl kt) r
theorem Wp.lstoreN {k : Fin 4} {v : Int64} {L' : Array Slot} {pc' : Nat} (hd : decode B pc = .ok (.lstore_n k, 1)) (hl : storeLocals L k.val (.long v) = some L') (hp : pc + 1 = pc') (r : Wp l Z R my B ml ret n0 Q h cells slots pc' L' S) : Wp l Z R my B ml ret n0 Q h cells slots pc L (.long v :: S) := by
  subst hp; exact Wp.plain (fun K X _ target kt => XT.lstoreN X.here K.1 rfl (hb K.2.1 hd) rfl hl kt) r
theorem Wp.lstore {k : Nat} {v : Int64} {L' : Array Slot} {pc' : Nat} (hd : decode B pc = .ok (.lstore k, 2)) (hl : storeLocals L k (.long v) = some L') (hp : pc + 2 = pc') (r : Wp l Z R my B ml ret n0 Q h cells slots pc' L' S) : Wp l Z R my B ml ret n0 Q h cells slots pc L (.long v :: S) := by
  subst hp; exact Wp.plain (fun K X _ target kt => XT.lstore X.here K.1 rfl (hb K.2.1 hd) rfl hl kt) r
theorem Wp.astoreN {k : Fin 4} {v : Value} {L' : Array Slot} {pc' : Nat} (hd : decode B pc = .ok (.astore_n k, 1)) (hv : v.isRef = true) (hl : storeLocals L k.val v = some L') (hp : pc + 1 = pc') (r : Wp l Z R my B ml ret n0 Q h cells slots pc' L' S) : Wp l Z R my B ml ret n0 Q h cells slots pc L (v :: S) := by
  subst hp; exact Wp.plain (fun K X _ target kt => XS.astoreN X.here K.1 rfl (hb K.2.1 hd) rfl hv hl kt) r
theorem Wp.astore {k : Nat} {v : Value} {L' : Array Slot} {pc' : Nat} (hd : decode B pc = .ok (.astore k, 2)) (hv : v.isRef = true) (hl : storeLocals L k v = some L') (hp : pc + 2 = pc') (r : Wp l Z R my B ml ret n0 Q h cells slots pc' L' S) : Wp l Z R my B ml ret n0 Q h cells slots pc L (v :: S) := by
  subst hp; exact Wp.plain (fun K X _ target kt => XS.astore X.here K.1 rfl (hb K.2.1 hd) rfl hv hl kt) r
theorem Wp.iinc {k : Nat} {cst : Int} {x z : Int32} {L' : Array Slot} {pc' : Nat} (hd : decode B pc = .ok (.iinc k cst, 3)) (hl : L[k]? = some (.val (.int x))) (hz : x + Int32.ofInt cst = z) (hl' : storeLocals L k (.int z) = some L') (hp : pc + 3 = pc') (r : Wp l Z R my B ml ret n0 Q h cells slots pc' L' S) : Wp l Z R my B ml ret n0 Q h cells slots pc L S := by
  subst hp hz; exact Wp.plain (fun K X _ target kt => XS.iinc X.here K.1 rfl (hb K.2.1 hd) hl hl' kt) r
theorem Wp.dup {v : Value} {pc' : Nat} (hd : decode B pc = .ok (.dup, 1)) (hc : v.category = 1) (hp : pc + 1 = pc') (r : Wp l Z R my B ml ret n0 Q h cells slots pc' L (v :: v :: S)) : Wp l Z R my B ml ret n0 Q h cells slots pc L (v :: S) := by
  subst hp; exact Wp.plain (fun K X _ target kt => XS.dup X.here K.1 rfl (hb K.2.1 hd) rfl hc kt) r
theorem Wp.dupX1 {v w : Value} {pc' : Nat} (hd : decode B pc = .ok (.dup_x1, 1)) (hc : v.category = 1) (hc' : w.category = 1) (hp : pc + 1 = pc') (r : Wp l Z R my B ml ret n0 Q h cells slots pc' L (v :: w :: v :: S)) : Wp l Z R my B ml ret n0 Q h cells slots pc L (v :: w :: S) := by
  subst hp; exact Wp.plain (fun K X _ target kt => XT.dupX1 X.here K.1 rfl (hb K.2.1 hd) rfl hc hc' kt) r
theorem Wp.dup2 {v w : Value} {pc' : Nat} (hd : decode B pc = .ok (.dup2, 1)) (hc : v.category = 1) (hc' : w.category = 1) (hp : pc + 1 = pc') (r : Wp l Z R my B ml ret n0 Q h cells slots pc' L (v :: w :: v :: w :: S)) : Wp l Z R my B ml ret n0 Q h cells slots pc L (v :: w :: S) := by
  subst hp; exact Wp.plain (fun K X _ target kt => XT.dup2 X.here K.1 rfl (hb K.2.1 hd) rfl hc hc' kt) r
theorem Wp.dupX2 {u v w : Value} {pc' : Nat} (hd : decode B pc = .ok (.dup_x2, 1)) (hc : u.category = 1) (hc' : v.category = 1) (hc'' : w.category = 1) (hp : pc + 1 = pc') (r : Wp l Z R my B ml ret n0 Q h cells slots pc' L (u :: v :: w :: u :: S)) : Wp l Z R my B ml ret n0 Q h cells slots pc L (u :: v :: w :: S) := by
  subst hp
  refine Wp.plain (fun {p e s m args below meth c T locs} K X _ target kt => ?_) r
  have hx := K.1
  have hd' : decode c.code pc = .ok (.dup_x2, 1) := hb K.2.1 hd
  show Steps p.tables e below (T.setTop { method := m, pc := pc, locals := L, stack := u :: v :: w :: S, locked := none }) _
  jvm_step X.here [X.here.top, hx, hd', dup_x2.wp_sem, hc, hc', hc'']
  exact kt
theorem Wp.pop {v : Value} {pc' : Nat} (hd : decode B pc = .ok (.pop, 1)) (hc : v.category = 1) (hp : pc + 1 = pc') (r : Wp l Z R my B ml ret n0 Q h cells slots pc' L S) : Wp l Z R my B ml ret n0 Q h cells slots pc L (v :: S) := by
  subst hp; exact Wp.plain (fun K X _ target kt => XT.pop X.here K.1 rfl (hb K.2.1 hd) rfl hc kt) r
theorem Wp.iadd {x y z : Int32} {pc' : Nat} (hd : decode B pc = .ok (.iadd, 1)) (hz : x + y = z) (hp : pc + 1 = pc') (r : Wp l Z R my B ml ret n0 Q h cells slots pc' L (.int z :: S)) : Wp l Z R my B ml ret n0 Q h cells slots pc L (.int y :: .int x :: S) := by
  subst hp hz; exact Wp.plain (fun K X _ target kt => XS.iadd X.here K.1 rfl (hb K.2.1 hd) rfl kt) r
theorem Wp.isub {x y z : Int32} {pc' : Nat} (hd : decode B pc = .ok (.isub, 1)) (hz : x - y = z) (hp : pc + 1 = pc') (r : Wp l Z R my B ml ret n0 Q h cells slots pc' L (.int z :: S)) : Wp l Z R my B ml ret n0 Q h cells slots pc L (.int y :: .int x :: S) := by
  subst hp hz; exact Wp.plain (fun K X _ target kt => XS.isub X.here K.1 rfl (hb K.2.1 hd) rfl kt) r
theorem Wp.iand {x y z : Int32} {pc' : Nat} (hd : decode B pc = .ok (.iand, 1)) (hz : x &&& y = z) (hp : pc + 1 = pc') (r : Wp l Z R my B ml ret n0 Q h cells slots pc' L (.int z :: S)) : Wp l Z R my B ml ret n0 Q h cells slots pc L (.int y :: .int x :: S) := by
  subst hp hz; exact Wp.plain (fun K X _ target kt => XS.iand X.here K.1 rfl (hb K.2.1 hd) rfl kt) r
theorem Wp.imul {x y z : Int32} {pc' : Nat} (hd : decode B pc = .ok (.imul, 1)) (hz : x * y = z) (hp : pc + 1 = pc') (r : Wp l Z R my B ml ret n0 Q h cells slots pc' L (.int z :: S)) : Wp l Z R my B ml ret n0 Q h cells slots pc L (.int y :: .int x :: S) := by
  subst hp hz; exact Wp.plain (fun K X _ target kt => XS.imul X.here K.1 rfl (hb K.2.1 hd) rfl kt) r
theorem Wp.ior {x y z : Int32} {pc' : Nat} (hd : decode B pc = .ok (.ior, 1)) (hz : x ||| y = z) (hp : pc + 1 = pc') (r : Wp l Z R my B ml ret n0 Q h cells slots pc' L (.int z :: S)) : Wp l Z R my B ml ret n0 Q h cells slots pc L (.int y :: .int x :: S) := by
  subst hp hz; exact Wp.plain (fun K X _ target kt => XT.ior X.here K.1 rfl (hb K.2.1 hd) rfl kt) r
theorem Wp.ixor {x y z : Int32} {pc' : Nat} (hd : decode B pc = .ok (.ixor, 1)) (hz : x ^^^ y = z) (hp : pc + 1 = pc') (r : Wp l Z R my B ml ret n0 Q h cells slots pc' L (.int z :: S)) : Wp l Z R my B ml ret n0 Q h cells slots pc L (.int y :: .int x :: S) := by
  subst hp hz; exact Wp.plain (fun K X _ target kt => XT.ixor X.here K.1 rfl (hb K.2.1 hd) rfl kt) r
theorem Wp.ishl {x y z : Int32} {pc' : Nat} (hd : decode B pc = .ok (.ishl, 1)) (hz : x <<< (y &&& 31) = z) (hp : pc + 1 = pc') (r : Wp l Z R my B ml ret n0 Q h cells slots pc' L (.int z :: S)) : Wp l Z R my B ml ret n0 Q h cells slots pc L (.int y :: .int x :: S) := by
  subst hp hz; exact Wp.plain (fun K X _ target kt => XT.ishl X.here K.1 rfl (hb K.2.1 hd) rfl kt) r
theorem Wp.ishr {x y z : Int32} {pc' : Nat} (hd : decode B pc = .ok (.ishr, 1)) (hz : x >>> (y &&& 31) = z) (hp : pc + 1 = pc') (r : Wp l Z R my B ml ret n0 Q h cells slots pc' L (.int z :: S)) : Wp l Z R my B ml ret n0 Q h cells slots pc L (.int y :: .int x :: S) := by
  subst hp hz; exact Wp.plain (fun K X _ target kt => XT.ishr X.here K.1 rfl (hb K.2.1 hd) rfl kt) r
theorem Wp.iushr {x y z : Int32} {pc' : Nat} (hd : decode B pc = .ok (.iushr, 1)) (hz : XT.ushr x y = z) (hp : pc + 1 = pc') (r : Wp l Z R my B ml ret n0 Q h cells slots pc' L (.int z :: S)) : Wp l Z R my B ml ret n0 Q h cells slots pc L (.int y :: .int x :: S) := by
  subst hp hz; exact Wp.plain (fun K X _ target kt => XT.iushr X.here K.1 rfl (hb K.2.1 hd) rfl kt) r
theorem Wp.ladd {x y z : Int64} {pc' : Nat} (hd : decode B pc = .ok (.ladd, 1)) (hz : x + y = z) (hp : pc + 1 = pc') (r : Wp l Z R my B ml ret n0 Q h cells slots pc' L (.long z :: S)) : Wp l Z R my B ml ret n0 Q h cells slots pc L (.long y :: .long x :: S) := by
  subst hp hz; exact Wp.plain (fun K X _ target kt => XT.ladd X.here K.1 rfl (hb K.2.1 hd) rfl kt) r
theorem Wp.lsub {x y z : Int64} {pc' : Nat} (hd : decode B pc = .ok (.lsub, 1)) (hz : x - y = z) (hp : pc + 1 = pc') (r : Wp l Z R my B ml ret n0 Q h cells slots pc' L (.long z :: S)) : Wp l Z R my B ml ret n0 Q h cells slots pc L (.long y :: .long x :: S) := by
  subst hp hz; exact Wp.plain (fun K X _ target kt => XT.lsub X.here K.1 rfl (hb K.2.1 hd) rfl kt) r
theorem Wp.lmul {x y z : Int64} {pc' : Nat} (hd : decode B pc = .ok (.lmul, 1)) (hz : x * y = z) (hp : pc + 1 = pc') (r : Wp l Z R my B ml ret n0 Q h cells slots pc' L (.long z :: S)) : Wp l Z R my B ml ret n0 Q h cells slots pc L (.long y :: .long x :: S) := by
  subst hp hz; exact Wp.plain (fun K X _ target kt => XT.lmul X.here K.1 rfl (hb K.2.1 hd) rfl kt) r
theorem Wp.land {x y z : Int64} {pc' : Nat} (hd : decode B pc = .ok (.land, 1)) (hz : x &&& y = z) (hp : pc + 1 = pc') (r : Wp l Z R my B ml ret n0 Q h cells slots pc' L (.long z :: S)) : Wp l Z R my B ml ret n0 Q h cells slots pc L (.long y :: .long x :: S) := by
  subst hp hz; exact Wp.plain (fun K X _ target kt => XT.land X.here K.1 rfl (hb K.2.1 hd) rfl kt) r
theorem Wp.lor {x y z : Int64} {pc' : Nat} (hd : decode B pc = .ok (.lor, 1)) (hz : x ||| y = z) (hp : pc + 1 = pc') (r : Wp l Z R my B ml ret n0 Q h cells slots pc' L (.long z :: S)) : Wp l Z R my B ml ret n0 Q h cells slots pc L (.long y :: .long x :: S) := by
  subst hp hz; exact Wp.plain (fun K X _ target kt => XT.lor X.here K.1 rfl (hb K.2.1 hd) rfl kt) r
theorem Wp.lxor {x y z : Int64} {pc' : Nat} (hd : decode B pc = .ok (.lxor, 1)) (hz : x ^^^ y = z) (hp : pc + 1 = pc') (r : Wp l Z R my B ml ret n0 Q h cells slots pc' L (.long z :: S)) : Wp l Z R my B ml ret n0 Q h cells slots pc L (.long y :: .long x :: S) := by
  subst hp hz; exact Wp.plain (fun K X _ target kt => XT.lxor X.here K.1 rfl (hb K.2.1 hd) rfl kt) r
theorem Wp.i2l {x : Int32} {z : Int64} {pc' : Nat} (hd : decode B pc = .ok (.i2l, 1)) (hz : x.toInt64 = z) (hp : pc + 1 = pc') (r : Wp l Z R my B ml ret n0 Q h cells slots pc' L (.long z :: S)) : Wp l Z R my B ml ret n0 Q h cells slots pc L (.int x :: S) := by
  subst hp hz; exact Wp.plain (fun K X _ target kt => XT.i2l X.here K.1 rfl (hb K.2.1 hd) rfl kt) r
theorem Wp.l2i {x : Int64} {z : Int32} {pc' : Nat} (hd : decode B pc = .ok (.l2i, 1)) (hz : x.toInt32 = z) (hp : pc + 1 = pc') (r : Wp l Z R my B ml ret n0 Q h cells slots pc' L (.int z :: S)) : Wp l Z R my B ml ret n0 Q h cells slots pc L (.long x :: S) := by
  subst hp hz; exact Wp.plain (fun K X _ target kt => XT.l2i X.here K.1 rfl (hb K.2.1 hd) rfl kt) r
theorem Wp.i2b {x : Int32} {z : Int32} {pc' : Nat} (hd : decode B pc = .ok (.i2b, 1)) (hz : x.toInt8.toInt32 = z) (hp : pc + 1 = pc') (r : Wp l Z R my B ml ret n0 Q h cells slots pc' L (.int z :: S)) : Wp l Z R my B ml ret n0 Q h cells slots pc L (.int x :: S) := by
  subst hp hz; exact Wp.plain (fun K X _ target kt => XT.i2b X.here K.1 rfl (hb K.2.1 hd) rfl kt) r
theorem Wp.i2c {x : Int32} {z : Int32} {pc' : Nat} (hd : decode B pc = .ok (.i2c, 1)) (hz : x.toUInt32.toUInt16.toUInt32.toInt32 = z) (hp : pc + 1 = pc') (r : Wp l Z R my B ml ret n0 Q h cells slots pc' L (.int z :: S)) : Wp l Z R my B ml ret n0 Q h cells slots pc L (.int x :: S) := by
  subst hp hz; exact Wp.plain (fun K X _ target kt => XT.i2c X.here K.1 rfl (hb K.2.1 hd) rfl kt) r
theorem Wp.lshl {x z : Int64} {y : Int32} {pc' : Nat} (hd : decode B pc = .ok (.lshl, 1)) (hz : x <<< (y.toInt64 &&& 63) = z) (hp : pc + 1 = pc') (r : Wp l Z R my B ml ret n0 Q h cells slots pc' L (.long z :: S)) : Wp l Z R my B ml ret n0 Q h cells slots pc L (.int y :: .long x :: S) := by
  subst hp hz; exact Wp.plain (fun K X _ target kt => XT.lshl X.here K.1 rfl (hb K.2.1 hd) rfl kt) r
theorem Wp.lshr {x z : Int64} {y : Int32} {pc' : Nat} (hd : decode B pc = .ok (.lshr, 1)) (hz : x >>> (y.toInt64 &&& 63) = z) (hp : pc + 1 = pc') (r : Wp l Z R my B ml ret n0 Q h cells slots pc' L (.long z :: S)) : Wp l Z R my B ml ret n0 Q h cells slots pc L (.int y :: .long x :: S) := by
  subst hp hz; exact Wp.plain (fun K X _ target kt => XT.lshr X.here K.1 rfl (hb K.2.1 hd) rfl kt) r
theorem Wp.lushr {x z : Int64} {y : Int32} {pc' : Nat} (hd : decode B pc = .ok (.lushr, 1)) (hz : XT.ushrL x y = z) (hp : pc + 1 = pc') (r : Wp l Z R my B ml ret n0 Q h cells slots pc' L (.long z :: S)) : Wp l Z R my B ml ret n0 Q h cells slots pc L (.int y :: .long x :: S) := by
  subst hp hz; exact Wp.plain (fun K X _ target kt => XT.lushr X.here K.1 rfl (hb K.2.1 hd) rfl kt) r
theorem Wp.idiv {x y z : Int32} {pc' : Nat} (hd : decode B pc = .ok (.idiv, 1)) (hy : y ≠ 0) (hz : x / y = z) (hp : pc + 1 = pc') (r : Wp l Z R my B ml ret n0 Q h cells slots pc' L (.int z :: S)) : Wp l Z R my B ml ret n0 Q h cells slots pc L (.int y :: .int x :: S) := by
  subst hp hz; exact Wp.plain (fun K X _ target kt => XS.idiv X.here K.1 rfl (hb K.2.1 hd) rfl hy kt) r
theorem Wp.ldiv {x y z : Int64} {pc' : Nat} (hd : decode B pc = .ok (.ldiv, 1)) (hy : y ≠ 0) (hz : x / y = z) (hp : pc + 1 = pc') (r : Wp l Z R my B ml ret n0 Q h cells slots pc' L (.long z :: S)) : Wp l Z R my B ml ret n0 Q h cells slots pc L (.long y :: .long x :: S) := by
  subst hp hz; exact Wp.plain (fun K X _ target kt => XT.ldiv X.here K.1 rfl (hb K.2.1 hd) rfl hy kt) r
theorem Wp.lrem {x y z : Int64} {pc' : Nat} (hd : decode B pc = .ok (.lrem, 1)) (hy : y ≠ 0) (hz : x - (x / y) * y = z) (hp : pc + 1 = pc') (r : Wp l Z R my B ml ret n0 Q h cells slots pc' L (.long z :: S)) : Wp l Z R my B ml ret n0 Q h cells slots pc L (.long y :: .long x :: S) := by
  subst hp hz; exact Wp.plain (fun K X _ target kt => XT.lrem X.here K.1 rfl (hb K.2.1 hd) rfl hy kt) r
theorem Wp.irem {x y z : Int32} {pc' : Nat} (hd : decode B pc = .ok (.irem, 1)) (hy : y ≠ 0) (hz : x % y = z) (hp : pc + 1 = pc') (r : Wp l Z R my B ml ret n0 Q h cells slots pc' L (.int z :: S)) : Wp l Z R my B ml ret n0 Q h cells slots pc L (.int y :: .int x :: S) := by
  subst hp hz; exact Wp.plain (fun K X _ target kt => iremM X K.1 rfl (hb K.2.1 hd) rfl hy kt) r
theorem Wp.goto {o : Int} {pc' : Nat} (hd : decode B pc = .ok (.goto o, 3)) (ho : 0 ≤ (pc : Int) + o) (hp : ((pc : Int) + o).toNat = pc') (r : Wp l Z R my B ml ret n0 Q h cells slots pc' L S) : Wp l Z R my B ml ret n0 Q h cells slots pc L S :=
  Wp.plain (fun K X _ target kt => XS.goto X.here K.1 rfl rfl (hb K.2.1 hd) ho hp kt) r
/-- what a comparison asks -/
abbrev cdP (cd : ClassFile.Cond) (x y : Int32) : Prop := match cd with | .eq => x = y | .ne => x ≠ y | .lt => x < y | .ge => ¬ x < y | .gt => y < x | .le => ¬ y < x
theorem cdP_iff (cd : ClassFile.Cond) (x y : Int32) : if_icmp.holds cd x y = true ↔ cdP cd x y := by
  cases cd <;> simp [if_icmp.holds, cdP, Int32.not_lt]
theorem cdP_not (cd : ClassFile.Cond) (x y : Int32) (h : ¬ cdP cd x y) : if_icmp.holds cd x y = false := by
  cases q : if_icmp.holds cd x y
  · rfl
  · exact absurd ((cdP_iff cd x y).mp q) h
theorem Wp.icmpY {cd : ClassFile.Cond} {x y : Int32} {o : Int} {pc' : Nat} (hd : decode B pc = .ok (.if_icmp cd o, 3)) (hc : cdP cd x y) (ho : 0 ≤ (pc : Int) + o) (hp : ((pc : Int) + o).toNat = pc') (r : Wp l Z R my B ml ret n0 Q h cells slots pc' L S) : Wp l Z R my B ml ret n0 Q h cells slots pc L (.int y :: .int x :: S) :=
  Wp.plain (fun K X _ target kt => XS.icmpYes X.here K.1 rfl rfl (hb K.2.1 hd) rfl ((cdP_iff cd x y).mpr hc) ho hp kt) r
theorem Wp.icmpN {cd : ClassFile.Cond} {x y : Int32} {o : Int} {pc' : Nat} (hd : decode B pc = .ok (.if_icmp cd o, 3)) (hc : ¬ cdP cd x y) (hp : pc + 3 = pc') (r : Wp l Z R my B ml ret n0 Q h cells slots pc' L S) : Wp l Z R my B ml ret n0 Q h cells slots pc L (.int y :: .int x :: S) := by
  subst hp; exact Wp.plain (fun K X _ target kt => XS.icmpNo X.here K.1 rfl (hb K.2.1 hd) rfl (cdP_not cd x y hc) kt) r
theorem Wp.ifY {cd : ClassFile.Cond} {x : Int32} {o : Int} {pc' : Nat} (hd : decode B pc = .ok (.ifCond cd o, 3)) (hc : cdP cd x 0) (ho : 0 ≤ (pc : Int) + o) (hp : ((pc : Int) + o).toNat = pc') (r : Wp l Z R my B ml ret n0 Q h cells slots pc' L S) : Wp l Z R my B ml ret n0 Q h cells slots pc L (.int x :: S) :=
  Wp.plain (fun K X _ target kt => XS.ifYes X.here K.1 rfl rfl (hb K.2.1 hd) rfl ((if0 _ _).trans ((cdP_iff cd x 0).mpr hc)) ho hp kt) r
theorem Wp.ifN {cd : ClassFile.Cond} {x : Int32} {o : Int} {pc' : Nat} (hd : decode B pc = .ok (.ifCond cd o, 3)) (hc : ¬ cdP cd x 0) (hp : pc + 3 = pc') (r : Wp l Z R my B ml ret n0 Q h cells slots pc' L S) : Wp l Z R my B ml ret n0 Q h cells slots pc L (.int x :: S) := by
  subst hp; exact Wp.plain (fun K X _ target kt => XS.ifNo X.here K.1 rfl (hb K.2.1 hd) rfl ((if0 _ _).trans (cdP_not cd x 0 hc)) kt) r
/-- lcmp, then a branch on it -/
abbrev cdL (cd : ClassFile.Cond) (x y : Int64) : Prop := match cd with | .eq => x = y | .ne => x ≠ y | .lt => x < y | .ge => ¬ x < y | .gt => y < x | .le => ¬ y < x
theorem cmpL_lt (x y : Int64) : XT.cmpL x y < 0 ↔ x < y := lw_lt x y
theorem cmpL_gt (x y : Int64) : 0 < XT.cmpL x y ↔ y < x := lw_gt x y
theorem cmpL_eq (x y : Int64) : XT.cmpL x y = 0 ↔ x = y := lw_eq x y
theorem cdL_iff (cd : ClassFile.Cond) (x y : Int64) : cdP cd (XT.cmpL x y) 0 ↔ cdL cd x y := by
  cases cd
  · exact cmpL_eq x y
  · exact not_congr (cmpL_eq x y)
  · exact cmpL_lt x y
  · exact not_congr (cmpL_lt x y)
  · exact cmpL_gt x y
  · exact not_congr (cmpL_gt x y)
theorem Wp.lcmp {x y : Int64} {z : Int32} {pc' : Nat} (hd : decode B pc = .ok (.lcmp, 1)) (hz : XT.cmpL x y = z) (hp : pc + 1 = pc') (r : Wp l Z R my B ml ret n0 Q h cells slots pc' L (.int z :: S)) : Wp l Z R my B ml ret n0 Q h cells slots pc L (.long y :: .long x :: S) := by
  subst hp hz; exact Wp.plain (fun K X _ target kt => XT.lcmp X.here K.1 rfl (hb K.2.1 hd) rfl kt) r
theorem Wp.lcmpY {cd : ClassFile.Cond} {x y : Int64} {o : Int} {p1 pc' : Nat} (hd : decode B pc = .ok (.lcmp, 1)) (h1 : pc + 1 = p1) (hd' : decode B p1 = .ok (.ifCond cd o, 3)) (hc : cdL cd x y) (ho : 0 ≤ (p1 : Int) + o) (hp : ((p1 : Int) + o).toNat = pc') (r : Wp l Z R my B ml ret n0 Q h cells slots pc' L S) : Wp l Z R my B ml ret n0 Q h cells slots pc L (.long y :: .long x :: S) :=
  Wp.lcmp hd rfl h1 (Wp.ifY hd' ((cdL_iff cd x y).mpr hc) ho hp r)
theorem Wp.lcmpN {cd : ClassFile.Cond} {x y : Int64} {o : Int} {p1 pc' : Nat} (hd : decode B pc = .ok (.lcmp, 1)) (h1 : pc + 1 = p1) (hd' : decode B p1 = .ok (.ifCond cd o, 3)) (hc : ¬ cdL cd x y) (hp : p1 + 3 = pc') (r : Wp l Z R my B ml ret n0 Q h cells slots pc' L S) : Wp l Z R my B ml ret n0 Q h cells slots pc L (.long y :: .long x :: S) :=
  Wp.lcmp hd rfl h1 (Wp.ifN hd' (fun q => hc ((cdL_iff cd x y).mp q)) hp r)
theorem Wp.ifnullY {o : Int} {pc' : Nat} (hd : decode B pc = .ok (.ifnull o, 3)) (ho : 0 ≤ (pc : Int) + o) (hp : ((pc : Int) + o).toNat = pc') (r : Wp l Z R my B ml ret n0 Q h cells slots pc' L S) : Wp l Z R my B ml ret n0 Q h cells slots pc L (.null :: S) :=
  Wp.plain (fun K X _ target kt => XS.ifnullYes X.here K.1 rfl rfl (hb K.2.1 hd) rfl ho hp kt) r
theorem Wp.ifnullN {a : Addr} {o : Int} {pc' : Nat} (hd : decode B pc = .ok (.ifnull o, 3)) (hp : pc + 3 = pc') (r : Wp l Z R my B ml ret n0 Q h cells slots pc' L S) : Wp l Z R my B ml ret n0 Q h cells slots pc L (.ref a :: S) := by
  subst hp; exact Wp.plain (fun K X _ target kt => XS.ifnullNo X.here K.1 rfl (hb K.2.1 hd) rfl kt) r
theorem Wp.ifnonnullY {a : Addr} {o : Int} {pc' : Nat} (hd : decode B pc = .ok (.ifnonnull o, 3)) (ho : 0 ≤ (pc : Int) + o) (hp : ((pc : Int) + o).toNat = pc') (r : Wp l Z R my B ml ret n0 Q h cells slots pc' L S) : Wp l Z R my B ml ret n0 Q h cells slots pc L (.ref a :: S) :=
  Wp.plain (fun K X _ target kt => XT.ifnonnullYes X.here K.1 rfl rfl (hb K.2.1 hd) rfl ho hp kt) r
theorem Wp.ifnonnullN {o : Int} {pc' : Nat} (hd : decode B pc = .ok (.ifnonnull o, 3)) (hp : pc + 3 = pc') (r : Wp l Z R my B ml ret n0 Q h cells slots pc' L S) : Wp l Z R my B ml ret n0 Q h cells slots pc L (.null :: S) := by
  subst hp; exact Wp.plain (fun K X _ target kt => XT.ifnonnullNo X.here K.1 rfl (hb K.2.1 hd) rfl kt) r
theorem Wp.acmpY {cd : ClassFile.ACond} {v w : Value} {o : Int} {pc' : Nat} (hd : decode B pc = .ok (.if_acmp cd o, 3)) (hv : v.isRef = true) (hw : w.isRef = true) (hc : XT.acmp cd v w = true) (ho : 0 ≤ (pc : Int) + o) (hp : ((pc : Int) + o).toNat = pc') (r : Wp l Z R my B ml ret n0 Q h cells slots pc' L S) : Wp l Z R my B ml ret n0 Q h cells slots pc L (w :: v :: S) :=
  Wp.plain (fun K X _ target kt => XT.acmpYes X.here K.1 rfl rfl (hb K.2.1 hd) rfl hv hw hc ho hp kt) r
theorem Wp.acmpN {cd : ClassFile.ACond} {v w : Value} {o : Int} {pc' : Nat} (hd : decode B pc = .ok (.if_acmp cd o, 3)) (hv : v.isRef = true) (hw : w.isRef = true) (hc : XT.acmp cd v w = false) (hp : pc + 3 = pc') (r : Wp l Z R my B ml ret n0 Q h cells slots pc' L S) : Wp l Z R my B ml ret n0 Q h cells slots pc L (w :: v :: S) := by
  subst hp; exact Wp.plain (fun K X _ target kt => XT.acmpNo X.here K.1 rfl (hb K.2.1 hd) rfl hv hw hc kt) r
/-- lookupswitch: where it goes -/
theorem Wp.lsw {dflt o : Int} {pairs : Array (Int × Int)} {len : Nat} {i : Int32} {pc' : Nat} (hd : decode B pc = .ok (.lookupswitch dflt pairs, len)) (hsrt : ∀ (a b a' b' : Int), ((a, b), a', b') ∈ pairs.toList.zip pairs.toList.tail → a < a') (hq : lookupswitch.offset pairs.toList dflt i.toInt = o) (ho : 0 ≤ (pc : Int) + o) (hp : ((pc : Int) + o).toNat = pc') (r : Wp l Z R my B ml ret n0 Q h cells slots pc' L S) : Wp l Z R my B ml ret n0 Q h cells slots pc L (.int i :: S) := by
  subst hp hq
  refine Wp.plain (fun {p e s m args below meth c T locs} K X _ target kt => ?_) r
  have hx := K.1
  have hd' : decode c.code pc = .ok (.lookupswitch dflt pairs, len) := hb K.2.1 hd
  show Steps p.tables e below (T.setTop { method := m, pc := pc, locals := L, stack := .int i :: S, locked := none }) _
  jvm_step X.here [X.here.top, hx, hd', lookupswitch.wp_chain, ho]
  exact ⟨hsrt, kt⟩
/-! returns -/
theorem Wp.ends {v : Option Value} (hc : cells ≤ R.cells) (hs : slots ≤ R.slots) (hq : Q v h) (hv : ret = none → v = none)
    (st : ∀ {p : Program} {e : Env} {s : State} {m : MethodId} {args : Array Value} {below : List Frame} {meth : Method} {c : Code} {T : State} {locs : List Loc}, Cx p s m meth c Z my B ml ret → Stand p l e R s m args below meth c T locs cells slots → ∀ fs, (∀ (f : JFrame) (acts : List Action), f.method = m → f.locked = none → f.entered = [] → (doReturn e (T.setTop f) acts v).1 = T.setFrames fs) → Steps p.tables e below (T.setTop (mkF m pc L S)) (T.setFrames fs)) : Wp l Z R my B ml ret n0 Q h cells slots pc L S := by
  intro p e s m args below meth c T locs K X eT N
  obtain ⟨fs, hr, hrun, hended, hW, hsame⟩ := X.leave (v := v) (fun q => hv (K.2.2.2.2.2.2.1.symm.trans q)) K.2.2.2.2.2.2.2
  refine ⟨_, _, st K X fs hr, hrun, hended, v, locs, rfl, ⟨?_, N⟩, ⟨v, rfl⟩, hW, hsame.mono hc hs⟩
  show Q v T.heap
  rw [eT]; exact hq
theorem Wp.retOut {v : Value} {t : FieldType} {i : Instr} (ht : ret = some t) (hn : narrow t v = v)
    (hi : (i = .ireturn ∧ (t = .int ∨ t = .boolean ∨ t = .byte ∨ t = .char ∨ t = .short) ∧ ∃ z, v = .int z) ∨ (i = .lreturn ∧ t = .long ∧ ∃ z, v = .long z) ∨ (i = .dreturn ∧ t = .double ∧ ∃ z, v = .double z) ∨ (i = .freturn ∧ t = .float ∧ ∃ z, v = .float z) ∨ (i = .areturn ∧ t.isReference = true ∧ v.isRef = true))
    (hd : decode B pc = .ok (i, 1)) (hc : cells ≤ R.cells) (hs : slots ≤ R.slots) (hq : Q (some v) h) : Wp l Z R my B ml ret n0 Q h cells slots pc L (v :: S) :=
  Wp.ends hc hs hq (fun q => by rw [ht] at q; cases q) (fun K X fs hl => RoadKit.retOut X K.1 (K.2.2.2.2.2.2.1.trans ht) hn hi (hb K.2.1 hd) hl)
theorem Wp.retI {z : Int32} (ht : ret = some .int) (hd : decode B pc = .ok (.ireturn, 1)) (hc : cells ≤ R.cells) (hs : slots ≤ R.slots) (hq : Q (some (.int z)) h) : Wp l Z R my B ml ret n0 Q h cells slots pc L (.int z :: S) :=
  Wp.retOut ht rfl (Or.inl ⟨rfl, Or.inl rfl, z, rfl⟩) hd hc hs hq
theorem Wp.retL {z : Int64} (ht : ret = some .long) (hd : decode B pc = .ok (.lreturn, 1)) (hc : cells ≤ R.cells) (hs : slots ≤ R.slots) (hq : Q (some (.long z)) h) : Wp l Z R my B ml ret n0 Q h cells slots pc L (.long z :: S) :=
  Wp.retOut ht rfl (Or.inr (Or.inl ⟨rfl, rfl, z, rfl⟩)) hd hc hs hq
/-- a boolean, byte, char or short, that is one already -/
theorem Wp.retS {z : Int32} {t : FieldType} (ht : ret = some t) (hk : t = .boolean ∨ t = .byte ∨ t = .char ∨ t = .short) (hn : narrow t (.int z) = .int z) (hd : decode B pc = .ok (.ireturn, 1)) (hc : cells ≤ R.cells) (hs : slots ≤ R.slots) (hq : Q (some (.int z)) h) : Wp l Z R my B ml ret n0 Q h cells slots pc L (.int z :: S) :=
  Wp.retOut ht hn (Or.inl ⟨rfl, Or.inr hk, z, rfl⟩) hd hc hs hq
theorem Wp.retA {v : Value} {t : FieldType} (ht : ret = some t) (htr : t.isReference = true) (hv : v.isRef = true) (hn : narrow t v = v) (hd : decode B pc = .ok (.areturn, 1)) (hc : cells ≤ R.cells) (hs : slots ≤ R.slots) (hq : Q (some v) h) : Wp l Z R my B ml ret n0 Q h cells slots pc L (v :: S) :=
  Wp.retOut ht hn (Or.inr (Or.inr (Or.inr (Or.inr ⟨rfl, htr, hv⟩)))) hd hc hs hq
theorem Wp.ret0 (ht : ret = none) (hd : decode B pc = .ok (.return_, 1)) (hc : cells ≤ R.cells) (hs : slots ≤ R.slots) (hq : Q none h) : Wp l Z R my B ml ret n0 Q h cells slots pc L [] :=
  Wp.ends hc hs hq (fun _ => rfl) (fun K X fs hl => X.returnOut K.1 (K.2.2.2.2.2.2.1.trans ht) (hb K.2.1 hd) hl)
/-! calls -/
theorem Wp.callS {yy : MethodName} {B' : ByteArray} {ml' : Nat} {ret' : Option FieldType} {rm : Room} {Q' : Option Value → Heap → Prop} {index pc' : Nat} {argsL S0 : List Value} {as : Array Value} (M : Met l Z yy B' ml' ret' rm as h n0 Q')
    (wl : (Jvm.Cond.methodLink my.cls index yy).before a0 Z = true) (ws : (Jvm.Cond.static yy).before a0 Z = true) (wi : (Jvm.Cond.initialized yy.cls).before a0 Z = true) (wc : (Jvm.Cond.code yy B' ml' ret').before a0 Z = true)
    (hy : yy.cls ≠ "java/lang/invoke/MethodHandle" ∧ yy.cls ≠ "java/lang/invoke/VarHandle") {W : Nat} (hsz : L.size = ml) (hlen : ∀ sig, parseMethodDescriptor yy.desc = some sig → argsL.length = sig.parameters.length) (hst : S0 = argsL.reverse ++ S) (has : argsL.toArray = as) (hW : (S.map fun v => v.category).sum ≤ W)
    (hf : rm.frames + 1 ≤ R.frames) (hl : W + (ml' + 11) + rm.locals ≤ R.locals) (hc : cells + rm.cells ≤ R.cells) (hs : slots + rm.slots ≤ R.slots) (hd : decode B pc = .ok (.invokestatic index, 3)) (hp : pc + 3 = pc')
    (r : ∀ v h', Q' v h' → Wp l Z R my B ml ret n0 Q h' (cells + rm.cells) (slots + rm.slots) pc' L (v.toList ++ S)) : Wp l Z R my B ml ret n0 Q h cells slots pc L S0 := by
  intro p e s m args below meth c T locs K X eT N
  subst hp hst
  have hZ := K.2.2.2.1
  obtain ⟨v, vm₁, ⟨T', L', k', n'⟩, -, X', ⟨Lc, hQ, l', y', z'⟩, st⟩ := Jvm.LawKit.callS X K.1 (y := yy) K.2.2.2.2.1 (mvT hZ wl) (mvT hZ ws) (mvT hZ wi) (mvT hZ wc) hy (backOf (W := W) (Q := fun v h L => Q' v h ∧ Fr n0 L) (M []) hZ wc wi hf hl) (g := mkF m pc L (argsL.reverse ++ S)) rfl (hsz.trans K.2.2.1.symm) (argsL := argsL) (rest := S) hlen rfl (by show 2 * 0 + _ ≤ _; rw [Nat.mul_zero, Nat.zero_add]; exact hW) (hb K.2.1 hd) (fun _ _ => ⟨has, eT, hc, hs⟩)
  dsimp only [Pt.U, Pt.locs, Pt.cells, Pt.slots] at X' l' y' z' st hQ
  subst l' y' z'
  obtain ⟨s₂, o, k1, k2⟩ := r v _ hQ.1 p e s m args below meth c T' _ K X' rfl (Fr.app N hQ.2)
  exact ⟨s₂, o, st _ k1, k2⟩
theorem Wp.callV {yy zz : MethodName} {B' : ByteArray} {ml' : Nat} {ret' : Option FieldType} {rm : Room} {Q' : Option Value → Heap → Prop} {index pc' : Nat} {argsL S0 : List Value} {as : Array Value} {a : Addr} {C : String} (M : Met l Z zz B' ml' ret' rm as h n0 Q') (E : Exa Z h a C)
    (wl : (Jvm.Cond.methodLink my.cls index yy).before a0 Z = true) (wd : (Jvm.Cond.declares yy).before a0 Z = true) (wse : (Jvm.Cond.selects C yy zz).before a0 Z = true) (wm : (Jvm.Cond.instanceMethod zz).before a0 Z = true) (wi : (Jvm.Cond.initialized zz.cls).before a0 Z = true) (wc : (Jvm.Cond.code zz B' ml' ret').before a0 Z = true)
    (nf : ∀ s : State, Z.Warmed39 s.vm → NotFace s yy)
    (hy : yy.cls ≠ "java/lang/invoke/MethodHandle" ∧ yy.cls ≠ "java/lang/invoke/VarHandle") {W : Nat} (hsz : L.size = ml) (hlen : ∀ sig, parseMethodDescriptor yy.desc = some sig → argsL.length = sig.parameters.length) (hst : S0 = argsL.reverse ++ .ref a :: S) (has : (.ref a :: argsL).toArray = as) (hW : (S.map fun v => v.category).sum ≤ W)
    (hf : rm.frames + 1 ≤ R.frames) (hl : W + (ml' + 11) + rm.locals ≤ R.locals) (hc : cells + rm.cells ≤ R.cells) (hs : slots + rm.slots ≤ R.slots) (hd : decode B pc = .ok (.invokevirtual index, 3)) (hp : pc + 3 = pc')
    (r : ∀ v h', Q' v h' → Wp l Z R my B ml ret n0 Q h' (cells + rm.cells) (slots + rm.slots) pc' L (v.toList ++ S)) : Wp l Z R my B ml ret n0 Q h cells slots pc L S0 := by
  intro p e s m args below meth c T locs K X eT N
  subst hp hst
  have hZ := K.2.2.2.1
  obtain ⟨cB, kB, q1, -, q3⟩ := isOf hZ eT E
  obtain ⟨v, vm₁, ⟨T', L', k', n'⟩, -, X', ⟨Lc, hQ, l', y', z'⟩, st⟩ := X.virtualBack K.1 (y := yy) (z := zz) K.2.2.2.2.1 (mvT hZ wl) (mvT hZ wd) (nf s hZ) (mvT hZ wse) (mvT hZ wm) hy (backOf (W := W) (Q := fun v h L => Q' v h ∧ Fr n0 L) (M []) hZ wc wi hf hl) q1 q3 (g := mkF m pc L (argsL.reverse ++ .ref a :: S)) rfl (hsz.trans K.2.2.1.symm) (Steps.refl _) (argsL := argsL) (rest := S) hlen rfl (by show 2 * 0 + _ ≤ _; rw [Nat.mul_zero, Nat.zero_add]; exact hW) (hb K.2.1 hd) (fun _ _ => ⟨has, eT, hc, hs⟩)
  dsimp only [Pt.U, Pt.locs, Pt.cells, Pt.slots] at X' l' y' z' st hQ
  subst l' y' z'
  obtain ⟨s₂, o, k1, k2⟩ := r v _ hQ.1 p e s m args below meth c T' _ K X' rfl (Fr.app N hQ.2)
  exact ⟨s₂, o, st.trans k1, k2⟩
theorem nfS {yy : MethodName} {C : String} (w : (Jvm.Cond.selects C yy yy).before a0 Z = true) : ∀ s : State, Z.Warmed39 s.vm → NotFace s yy := fun s hZ => notFace_of_selects (args := #[]) (mvT hZ w)
theorem Wp.callI {yy : MethodName} {B' : ByteArray} {ml' : Nat} {rm : Room} {Q' : Option Value → Heap → Prop} {index pc' : Nat} {argsL S0 : List Value} {as : Array Value} {a : Addr} (M : Met l Z yy B' ml' none rm as h n0 Q') (hin : yy.name = "<init>")
    (wl : (Jvm.Cond.methodLink my.cls index yy).before a0 Z = true) (wm : (Jvm.Cond.instanceMethod yy).before a0 Z = true) (wi : (Jvm.Cond.initialized yy.cls).before a0 Z = true) (wc : (Jvm.Cond.code yy B' ml' none).before a0 Z = true)
    (hy : yy.cls ≠ "java/lang/invoke/MethodHandle" ∧ yy.cls ≠ "java/lang/invoke/VarHandle") {W : Nat} (hsz : L.size = ml) (hlen : ∀ sig, parseMethodDescriptor yy.desc = some sig → argsL.length = sig.parameters.length) (hst : S0 = argsL.reverse ++ .ref a :: S) (has : (.ref a :: argsL).toArray = as) (hW : (S.map fun v => v.category).sum ≤ W)
    (hf : rm.frames + 1 ≤ R.frames) (hl : W + (ml' + 11) + rm.locals ≤ R.locals) (hc : cells + rm.cells ≤ R.cells) (hs : slots + rm.slots ≤ R.slots) (hd : decode B pc = .ok (.invokespecial index, 3)) (hp : pc + 3 = pc')
    (r : ∀ v h', Q' v h' → Wp l Z R my B ml ret n0 Q h' (cells + rm.cells) (slots + rm.slots) pc' L (v.toList ++ S)) : Wp l Z R my B ml ret n0 Q h cells slots pc L S0 := by
  intro p e s m args below meth c T locs K X eT N
  subst hp hst
  have hZ := K.2.2.2.1
  obtain ⟨v, vm₁, ⟨T', L', k', n'⟩, -, X', ⟨Lc, hQ, l', y', z'⟩, st⟩ := X.specialBack K.1 (y := yy) hin K.2.2.2.2.1 (mvT hZ wl) (mvT hZ wm) (mvT hZ wc) hy (backOf (W := W) (Q := fun v h L => Q' v h ∧ Fr n0 L) (M []) hZ wc wi hf hl) (g := mkF m pc L (argsL.reverse ++ .ref a :: S)) rfl (hsz.trans K.2.2.1.symm) (Steps.refl _) (a := a) (argsL := argsL) (rest := S) hlen rfl (by show 2 * 0 + _ ≤ _; rw [Nat.mul_zero, Nat.zero_add]; exact hW) (hb K.2.1 hd) (fun _ _ => ⟨has, eT, hc, hs⟩)
  dsimp only [Pt.U, Pt.locs, Pt.cells, Pt.slots] at X' l' y' z' st hQ
  subst l' y' z'
  obtain ⟨s₂, o, k1, k2⟩ := r v _ hQ.1 p e s m args below meth c T' _ K X' rfl (Fr.app N hQ.2)
  exact ⟨s₂, o, st.trans k1, k2⟩
theorem Wp.initO {a : Addr} {index pc' : Nat} (wl : (Jvm.Cond.methodLink my.cls index Lib.objectInit).before a0 Z = true) (wm : (Jvm.Cond.instanceMethod Lib.objectInit).before a0 Z = true) (wc : (Jvm.Cond.code Lib.objectInit ⟨#[0xb1]⟩ 1 none).before a0 Z = true) {W : Nat} (hsz : L.size = ml) (hW : (S.map fun v => v.category).sum ≤ W) (hf : 1 ≤ R.frames) (hl : W + 12 ≤ R.locals)
    (hd : decode B pc = .ok (.invokespecial index, 3)) (hp : pc + 3 = pc') (r : Wp l Z R my B ml ret n0 Q h cells slots pc' L S) : Wp l Z R my B ml ret n0 Q h cells slots pc L (.ref a :: S) := by
  subst hp
  refine Wp.moved (fun {p e s m args below meth c T locs} K X eT => ?_) r
  exact RoadKit.initO X K.1 K.2.2.2.1 K.2.2.2.2.1 wl wm wc eT (g := mkF m pc L (.ref a :: S)) rfl (hsz.trans K.2.2.1.symm) rfl (hb K.2.1 hd) hf (by show 2 * 0 + _ ≤ _; rw [Nat.mul_zero, Nat.zero_add]; exact hW) hl
end Base
/-! what is known of the heap: a list of places, no two the same, all new, with what each holds -/
def Hp (h : Heap) (n0 : Nat) (Ls : List (Addr × (Cell → Prop))) : Prop := n0 ≤ h.size ∧ Ls.Pairwise (fun x y => x.1 ≠ y.1) ∧ ∀ q ∈ Ls, n0 ≤ q.1 ∧ ∃ c, h[q.1]? = some c ∧ q.2 c
/-- an array: its type, its kind, all its values -/
def ArC (Z : State) (k : ClassId) (ty : FieldType) (vs : List Value) (c : Cell) : Prop := Z.isArrayOf c ty ∧ c.vm ≠ .unknown ∧ c.cls = k ∧ c.slots.toList = vs ∧ ∀ v ∈ vs, fits ty v = true
def FdC (Z : State) (C : String) (f : String × String × Value) (c : Cell) : Prop := ∃ (cf : ClassId) (k : Class) (i : Nat) (fd : Field), Z.fieldFound? C f.1 f.2.1 = some (cf, k, i, fd) ∧ fd.isStatic = false ∧ c.vm ≠ .unknown ∧ c.vm.isStatics = false ∧ Z.vm.assignable c.cls cf = true ∧ c.slots[fd.slot]? = some f.2.2
/-- an object: its type, the fields that are told -/
def ObC (Z : State) (a0 : Array Value) (C : String) (fs : List (String × String × Value)) (c : Cell) : Prop :=
  (∃ k : Class, Z.vm.findClass C = some c.cls ∧ Z.vm.classes[c.cls]? = some k ∧ c.vm.isStatics = false ∧ (k.kind = .ordinary → c.slots.size = k.instanceTypes.size)) ∧ ∀ f ∈ fs, FdC Z C f c ∧ Laid Z a0 C C f.1 f.2.1 ∧ ∃ t, parseFieldDescriptor f.2.1 = some t
section Heap
variable {l : Launch} {Z : State} {R : Room} {my : MethodName} {B : ByteArray} {ml : Nat} {ret : Option FieldType} {n0 : Nat} {Q : Option Value → Heap → Prop} {h h' : Heap} {cells slots pc : Nat} {L : Array Slot} {S : List Value} {a0 : Array Value} {a : Addr} {P P' : Cell → Prop} {Ls Ls' LA LB : List (Addr × (Cell → Prop))} {k : ClassId} {ty : FieldType} {vs : List Value} {C n d : String} {v : Value} {fs F1 F2 : List (String × String × Value)}
theorem Hp.nil (q : n0 ≤ h.size) : Hp h n0 [] := ⟨q, List.Pairwise.nil, fun _ z => nomatch z⟩
theorem Hp.at (O : Hp h n0 Ls) {i : Nat} (hi : Ls[i]? = some (a, P)) : n0 ≤ a ∧ ∃ c, h[a]? = some c ∧ P c := O.2.2 _ (List.mem_of_getElem? hi)
theorem Hp.perm (O : Hp h n0 Ls) (q : Ls.Perm Ls') : Hp h n0 Ls' :=
  ⟨O.1, (q.pairwise_iff (fun {x y} (hh : x.1 ≠ y.1) => Ne.symm hh)).mp O.2.1, fun z hz => O.2.2 z (q.mem_iff.mpr hz)⟩
theorem Hp.front {x : Addr × (Cell → Prop)} (O : Hp h n0 (LA ++ x :: LB)) : Hp h n0 (x :: (LA ++ LB)) := O.perm List.perm_middle
theorem Hp.back {x : Addr × (Cell → Prop)} (O : Hp h n0 (x :: (LA ++ LB))) : Hp h n0 (LA ++ x :: LB) := O.perm List.perm_middle.symm
theorem Hp.drop {x : Addr × (Cell → Prop)} (O : Hp h n0 (x :: Ls)) : Hp h n0 Ls := ⟨O.1, (List.pairwise_cons.mp O.2.1).2, fun z hz => O.2.2 z (List.mem_cons_of_mem _ hz)⟩
theorem Hp.weak (O : Hp h n0 (LA ++ (a, P) :: LB)) (hP : ∀ c, P c → P' c) : Hp h n0 (LA ++ (a, P') :: LB) := by
  obtain ⟨h1, h2, h3⟩ := O
  refine ⟨h1, ?_, fun q hq => ?_⟩
  · rw [List.pairwise_append, List.pairwise_cons] at h2 ⊢
    refine ⟨h2.1, h2.2.1, fun x hx z hz => ?_⟩
    rcases List.mem_cons.mp hz with rfl | hz
    · exact h2.2.2 x hx (a, P) (List.mem_cons_self ..)
    · exact h2.2.2 x hx z (List.mem_cons_of_mem _ hz)
  · rcases List.mem_append.mp hq with hq | hq
    · exact h3 q (List.mem_append_left _ hq)
    · rcases List.mem_cons.mp hq with rfl | hq
      · obtain ⟨u1, c, u2, u3⟩ := h3 (a, P) (List.mem_append_right _ (List.mem_cons_self ..))
        exact ⟨u1, c, u2, hP c u3⟩
      · exact h3 q (List.mem_append_right _ (List.mem_cons_of_mem _ hq))
theorem Hp.wr {sl : Nat} (O : Hp h n0 (LA ++ (a, P) :: LB)) (W : Wr h h' a sl v) (hP : ∀ c, P c → P' (c.setSlot sl v)) : Hp h' n0 (LA ++ (a, P') :: LB) := by
  obtain ⟨h1, h2, h3⟩ := O
  have h2' := h2
  rw [List.pairwise_append, List.pairwise_cons] at h2'
  refine ⟨by rw [W.size]; exact h1, ?_, fun q hq => ?_⟩
  · rw [List.pairwise_append, List.pairwise_cons]
    refine ⟨h2'.1, h2'.2.1, fun x hx z hz => ?_⟩
    rcases List.mem_cons.mp hz with rfl | hz
    · exact h2'.2.2 x hx (a, P) (List.mem_cons_self ..)
    · exact h2'.2.2 x hx z (List.mem_cons_of_mem _ hz)
  · rcases List.mem_append.mp hq with hq | hq
    · obtain ⟨u1, c, u2, u3⟩ := h3 q (List.mem_append_left _ hq)
      obtain ⟨c', w1, -, -, -, w5, -⟩ := wr_at W u2
      have ne : q.1 ≠ a := h2'.2.2 q hq (a, P) (List.mem_cons_self ..)
      exact ⟨u1, c', w1, by rw [w5 ne]; exact u3⟩
    · rcases List.mem_cons.mp hq with rfl | hq
      · obtain ⟨u1, c, u2, u3⟩ := h3 (a, P) (List.mem_append_right _ (List.mem_cons_self ..))
        obtain ⟨c', w1, -, -, -, -, -, w7⟩ := wr_at W u2
        exact ⟨u1, c', w1, by rw [(w7 rfl).1]; exact hP c u3⟩
      · obtain ⟨u1, c, u2, u3⟩ := h3 q (List.mem_append_right _ (List.mem_cons_of_mem _ hq))
        obtain ⟨c', w1, -, -, -, w5, -⟩ := wr_at W u2
        have ne : q.1 ≠ a := fun e => h2'.2.1.1 q hq e.symm
        exact ⟨u1, c', w1, by rw [w5 ne]; exact u3⟩
theorem Hp.new {c : Cell} (O : Hp h n0 Ls) (E : Ext h h') (hc : h'[h.size]? = some c) (hP : P c) : Hp h' n0 ((h.size, P) :: Ls) := by
  obtain ⟨h1, h2, h3⟩ := O
  refine ⟨Nat.le_trans h1 E.1, List.pairwise_cons.mpr ⟨fun q hq e => ?_, h2⟩, fun q hq => ?_⟩
  · obtain ⟨-, c', u2, -⟩ := h3 q hq
    have := (Array.getElem?_eq_some_iff.mp u2).1
    have e' : h.size = q.1 := e
    omega
  · rcases List.mem_cons.mp hq with rfl | hq
    · exact ⟨h1, c, hc, hP⟩
    · obtain ⟨u1, c', u2, u3⟩ := h3 q hq
      exact ⟨u1, c', E.2 _ _ u2, u3⟩
theorem Hp.ne {i j : Nat} {b : Addr} (O : Hp h n0 Ls) (hi : Ls[i]? = some (a, P)) (hj : Ls[j]? = some (b, P')) (hij : i ≠ j) : a ≠ b := by
  obtain ⟨i1, e1⟩ := List.getElem?_eq_some_iff.mp hi
  obtain ⟨j1, e2⟩ := List.getElem?_eq_some_iff.mp hj
  have q := List.pairwise_iff_getElem.mp O.2.1
  rcases Nat.lt_or_gt_of_ne hij with u | u
  · have := q i j i1 j1 u
    rw [e1, e2] at this; exact this
  · have := q j i j1 i1 u
    rw [e1, e2] at this; exact Ne.symm this
theorem ArC.arr {c : Cell} (H : ArC Z k ty vs c) (hc : h[a]? = some c) : Arr Z h a c ty := ⟨hc, H.1, H.2.1⟩
theorem ArC.size {c : Cell} (H : ArC Z k ty vs c) : c.slots.size = vs.length := by rw [← H.2.2.2.1]; simp
theorem ArC.get {c : Cell} (H : ArC Z k ty vs c) (j : Nat) : c.slots[j]? = vs[j]? := by rw [← H.2.2.2.1]; simp
theorem ArC.set {c : Cell} (H : ArC Z k ty vs c) (j : Nat) (hv : fits ty v = true) : ArC Z k ty (vs.set j v) (c.setSlot j v) := by
  refine ⟨H.1, H.2.1, H.2.2.1, ?_, fun w hw => ?_⟩
  · rw [← H.2.2.2.1]; simp [Cell.setSlot]
  · rcases List.mem_or_eq_of_mem_set hw with q | rfl
    · exact H.2.2.2.2 w q
    · exact hv
theorem in_of {c : Cell} {j : Int32} {jn : Nat} (H : ArC Z k ty vs c) (hj : ¬ j < 0) (hjn : j.toNatClampNeg = jn) (hl : jn < vs.length) : ¬ (j < 0 ∨ c.slots.size ≤ j.toNatClampNeg) := by
  rw [H.size, hjn]; exact fun q => q.elim hj (fun q => by omega)
theorem default_fits (ty : FieldType) : fits ty (defaultValue ty) = true := by cases ty <;> rfl
/-! arrays -/
theorem Wp.newarr {aty : ArrayType} {nn : Int32} {m pc' cap : Nat} (O : Hp h n0 Ls) (w : (Jvm.Cond.arrayClass (newarray.typeOf aty)).before a0 Z = true) (hd : decode B pc = .ok (.newarray aty, 2)) (hn : ¬ nn < 0) (hm : nn.toNatClampNeg = m) (hcap : m ≤ cap) (hb' : cap * 8 ≤ 536870912) (hc : cells + 1 ≤ R.cells) (hl : slots + cap ≤ R.slots) (hp : pc + 2 = pc')
    (r : ∀ h' a k, Hp h' n0 ((a, ArC Z k (newarray.typeOf aty) (List.replicate m (defaultValue (newarray.typeOf aty)))) :: Ls) → Wp l Z R my B ml ret n0 Q h' (cells + 1) (slots + cap) pc' L (.ref a :: S)) : Wp l Z R my B ml ret n0 Q h cells slots pc L (.int nn :: S) := by
  intro p e s m' args below meth c T locs K X eT N
  subst hp hm
  obtain ⟨T', h', cA, X', e', E, A, st⟩ := RoadKit.newP X K.1 K.2.2.2.1 w eT (g := mkF m' pc L (.int nn :: S)) rfl (hb K.2.1 hd) rfl hn hcap hb' hc hl
  have O' : Hp h' n0 ((h.size, ArC Z cA (newarray.typeOf aty) (List.replicate nn.toNatClampNeg (defaultValue (newarray.typeOf aty)))) :: Ls) := O.new E A.1 ⟨A.2.1, A.2.2, rfl, by simp [newA], fun v hv => by rw [List.eq_of_mem_replicate hv]; exact default_fits _⟩
  obtain ⟨s₂, o, k1, k2⟩ := r h' h.size cA O' p e s m' args below meth c T' locs K X' e' N
  exact ⟨s₂, o, st _ k1, k2⟩
theorem Wp.arrlen {i pc' : Nat} {z : Int32} (O : Hp h n0 Ls) (hi : Ls[i]? = some (a, ArC Z k ty vs)) (hd : decode B pc = .ok (.arraylength, 1)) (hz : vs.length.toInt32 = z) (hp : pc + 1 = pc') (r : Wp l Z R my B ml ret n0 Q h cells slots pc' L (.int z :: S)) : Wp l Z R my B ml ret n0 Q h cells slots pc L (.ref a :: S) := by
  subst hp hz
  obtain ⟨-, c, hc, H⟩ := O.at hi
  refine Wp.plain (fun {p e s m args below meth c' T locs} K X eT target kt => ?_) r
  refine X.arraylength K.1 (cell := c) (by rw [eT]; exact hc) (State.isArrayOf_alike K.2.2.2.1.alike H.1) (g := mkF m pc L (.ref a :: S)) rfl (rest := S) rfl (hb K.2.1 hd) target ?_
  rw [H.size]; exact kt
theorem Wp.iaload {i pc' jn : Nat} {j : Int32} (O : Hp h n0 Ls) (hi : Ls[i]? = some (a, ArC Z k .int vs)) (hd : decode B pc = .ok (.iaload, 1)) (hj : ¬ j < 0) (hjn : j.toNatClampNeg = jn) (hv : vs[jn]? = some v) (hp : pc + 1 = pc') (r : Wp l Z R my B ml ret n0 Q h cells slots pc' L (v :: S)) : Wp l Z R my B ml ret n0 Q h cells slots pc L (.int j :: .ref a :: S) := by
  subst hp
  obtain ⟨-, c, hc, H⟩ := O.at hi
  have hl : jn < vs.length := (List.getElem?_eq_some_iff.mp hv).1
  refine Wp.plain (fun {p e s m args below meth c' T locs} K X eT target kt => ?_) r
  exact X.iaload K.1 (cell := c) (j := j) (v := v) (by rw [eT]; exact hc) (State.isArrayOf_alike K.2.2.2.1.alike H.1) H.2.1 (in_of H hj hjn hl) (by rw [H.get, hjn]; exact hv) (g := mkF m pc L (.int j :: .ref a :: S)) rfl rfl (hb K.2.1 hd) target kt
theorem Wp.laload {i pc' jn : Nat} {j : Int32} (O : Hp h n0 Ls) (hi : Ls[i]? = some (a, ArC Z k .long vs)) (hd : decode B pc = .ok (.laload, 1)) (hj : ¬ j < 0) (hjn : j.toNatClampNeg = jn) (hv : vs[jn]? = some v) (hp : pc + 1 = pc') (r : Wp l Z R my B ml ret n0 Q h cells slots pc' L (v :: S)) : Wp l Z R my B ml ret n0 Q h cells slots pc L (.int j :: .ref a :: S) := by
  subst hp
  obtain ⟨-, c, hc, H⟩ := O.at hi
  have hl : jn < vs.length := (List.getElem?_eq_some_iff.mp hv).1
  refine Wp.plain (fun {p e s m args below meth c' T locs} K X eT target kt => ?_) r
  exact X.laload K.1 (cell := c) (j := j) (v := v) (by rw [eT]; exact hc) (State.isArrayOf_alike K.2.2.2.1.alike H.1) H.2.1 (in_of H hj hjn hl) (by rw [H.get, hjn]; exact hv) (g := mkF m pc L (.int j :: .ref a :: S)) rfl rfl (hb K.2.1 hd) target kt
theorem Wp.caload {i pc' jn : Nat} {j : Int32} (O : Hp h n0 Ls) (hi : Ls[i]? = some (a, ArC Z k .char vs)) (hd : decode B pc = .ok (.caload, 1)) (hj : ¬ j < 0) (hjn : j.toNatClampNeg = jn) (hv : vs[jn]? = some v) (hp : pc + 1 = pc') (r : Wp l Z R my B ml ret n0 Q h cells slots pc' L (v :: S)) : Wp l Z R my B ml ret n0 Q h cells slots pc L (.int j :: .ref a :: S) := by
  subst hp
  obtain ⟨-, c, hc, H⟩ := O.at hi
  have hl : jn < vs.length := (List.getElem?_eq_some_iff.mp hv).1
  refine Wp.plain (fun {p e s m args below meth c' T locs} K X eT target kt => ?_) r
  exact X.caload K.1 (cell := c) (j := j) (v := v) (by rw [eT]; exact hc) (State.isArrayOf_alike K.2.2.2.1.alike H.1) H.2.1 (in_of H hj hjn hl) (by rw [H.get, hjn]; exact hv) (g := mkF m pc L (.int j :: .ref a :: S)) rfl rfl (hb K.2.1 hd) target kt
theorem Wp.baload {i pc' jn : Nat} {j : Int32} (O : Hp h n0 Ls) (hi : Ls[i]? = some (a, ArC Z k .byte vs)) (hd : decode B pc = .ok (.baload, 1)) (hj : ¬ j < 0) (hjn : j.toNatClampNeg = jn) (hv : vs[jn]? = some v) (hp : pc + 1 = pc') (r : Wp l Z R my B ml ret n0 Q h cells slots pc' L (v :: S)) : Wp l Z R my B ml ret n0 Q h cells slots pc L (.int j :: .ref a :: S) := by
  subst hp
  obtain ⟨-, c, hc, H⟩ := O.at hi
  have hl : jn < vs.length := (List.getElem?_eq_some_iff.mp hv).1
  refine Wp.plain (fun {p e s m args below meth c' T locs} K X eT target kt => ?_) r
  exact X.baloadBytes K.1 (cell := c) (j := j) (v := v) (by rw [eT]; exact hc) (State.isArrayOf_alike K.2.2.2.1.alike H.1) H.2.1 (in_of H hj hjn hl) (by rw [H.get, hjn]; exact hv) (g := mkF m pc L (.int j :: .ref a :: S)) rfl rfl (hb K.2.1 hd) target kt
theorem Wp.iastore {pc' jn : Nat} {j : Int32} {x : Int32} (O : Hp h n0 (LA ++ (a, ArC Z k .int vs) :: LB)) (hd : decode B pc = .ok (.iastore, 1)) (hj : ¬ j < 0) (hjn : j.toNatClampNeg = jn) (hl : jn < vs.length) (hp : pc + 1 = pc') (r : ∀ h', Hp h' n0 (LA ++ (a, ArC Z k .int (vs.set jn (.int x))) :: LB) → Wp l Z R my B ml ret n0 Q h' cells slots pc' L S) : Wp l Z R my B ml ret n0 Q h cells slots pc L (.int x :: .int j :: .ref a :: S) := by
  intro p e s m args below meth c' T locs K X eT N
  subst hp hjn
  obtain ⟨g0, c, hc, H⟩ := O.2.2 _ (List.mem_append_right _ (List.mem_cons_self ..))
  obtain ⟨T', h', X', e', W, st⟩ := RoadKit.stI X K.1 K.2.2.2.1 eT (H.arr hc) (j := j) (in_of H hj rfl hl) (g := mkF m pc L (.int x :: .int j :: .ref a :: S)) rfl rfl (hb K.2.1 hd)
  have O' := O.wr W (P' := ArC Z k .int (vs.set j.toNatClampNeg (.int x))) (fun c0 H0 => H0.set _ (rfl))
  obtain ⟨s₂, o, k1, k2⟩ := r h' O' p e s m args below meth c' T' _ K X' e' (Fr.snoc X' N g0)
  exact ⟨s₂, o, st _ k1, k2⟩
theorem Wp.lastore {pc' jn : Nat} {j : Int32} {x : Int64} (O : Hp h n0 (LA ++ (a, ArC Z k .long vs) :: LB)) (hd : decode B pc = .ok (.lastore, 1)) (hj : ¬ j < 0) (hjn : j.toNatClampNeg = jn) (hl : jn < vs.length) (hp : pc + 1 = pc') (r : ∀ h', Hp h' n0 (LA ++ (a, ArC Z k .long (vs.set jn (.long x))) :: LB) → Wp l Z R my B ml ret n0 Q h' cells slots pc' L S) : Wp l Z R my B ml ret n0 Q h cells slots pc L (.long x :: .int j :: .ref a :: S) := by
  intro p e s m args below meth c' T locs K X eT N
  subst hp hjn
  obtain ⟨g0, c, hc, H⟩ := O.2.2 _ (List.mem_append_right _ (List.mem_cons_self ..))
  obtain ⟨T', h', X', e', W, st⟩ := RoadKit.stJ X K.1 K.2.2.2.1 eT (H.arr hc) (j := j) (in_of H hj rfl hl) (g := mkF m pc L (.long x :: .int j :: .ref a :: S)) rfl rfl (hb K.2.1 hd)
  have O' := O.wr W (P' := ArC Z k .long (vs.set j.toNatClampNeg (.long x))) (fun c0 H0 => H0.set _ (rfl))
  obtain ⟨s₂, o, k1, k2⟩ := r h' O' p e s m args below meth c' T' _ K X' e' (Fr.snoc X' N g0)
  exact ⟨s₂, o, st _ k1, k2⟩
theorem Wp.castore {pc' jn : Nat} {j : Int32} {x : Int32} (O : Hp h n0 (LA ++ (a, ArC Z k .char vs) :: LB)) (hd : decode B pc = .ok (.castore, 1)) (hj : ¬ j < 0) (hjn : j.toNatClampNeg = jn) (hl : jn < vs.length) (hp : pc + 1 = pc') (r : ∀ h', Hp h' n0 (LA ++ (a, ArC Z k .char (vs.set jn (.int (nar .char x)))) :: LB) → Wp l Z R my B ml ret n0 Q h' cells slots pc' L S) : Wp l Z R my B ml ret n0 Q h cells slots pc L (.int x :: .int j :: .ref a :: S) := by
  intro p e s m args below meth c' T locs K X eT N
  subst hp hjn
  obtain ⟨g0, c, hc, H⟩ := O.2.2 _ (List.mem_append_right _ (List.mem_cons_self ..))
  obtain ⟨T', h', X', e', W, st⟩ := RoadKit.stC X K.1 K.2.2.2.1 eT (H.arr hc) (j := j) (in_of H hj rfl hl) (g := mkF m pc L (.int x :: .int j :: .ref a :: S)) rfl rfl (hb K.2.1 hd)
  have O' := O.wr W (P' := ArC Z k .char (vs.set j.toNatClampNeg (.int (nar .char x)))) (fun c0 H0 => H0.set _ (fits_nar_char x))
  obtain ⟨s₂, o, k1, k2⟩ := r h' O' p e s m args below meth c' T' _ K X' e' (Fr.snoc X' N g0)
  exact ⟨s₂, o, st _ k1, k2⟩
theorem Wp.bastore {pc' jn : Nat} {j : Int32} {x : Int32} (O : Hp h n0 (LA ++ (a, ArC Z k .byte vs) :: LB)) (hd : decode B pc = .ok (.bastore, 1)) (hj : ¬ j < 0) (hjn : j.toNatClampNeg = jn) (hl : jn < vs.length) (hp : pc + 1 = pc') (r : ∀ h', Hp h' n0 (LA ++ (a, ArC Z k .byte (vs.set jn (.int (nar .byte x)))) :: LB) → Wp l Z R my B ml ret n0 Q h' cells slots pc' L S) : Wp l Z R my B ml ret n0 Q h cells slots pc L (.int x :: .int j :: .ref a :: S) := by
  intro p e s m args below meth c' T locs K X eT N
  subst hp hjn
  obtain ⟨g0, c, hc, H⟩ := O.2.2 _ (List.mem_append_right _ (List.mem_cons_self ..))
  obtain ⟨T', h', X', e', W, st⟩ := RoadKit.stB X K.1 K.2.2.2.1 eT (H.arr hc) (j := j) (in_of H hj rfl hl) (g := mkF m pc L (.int x :: .int j :: .ref a :: S)) rfl rfl (hb K.2.1 hd)
  have O' := O.wr W (P' := ArC Z k .byte (vs.set j.toNatClampNeg (.int (nar .byte x)))) (fun c0 H0 => H0.set _ (fits_nar_byte x))
  obtain ⟨s₂, o, k1, k2⟩ := r h' O' p e s m args below meth c' T' _ K X' e' (Fr.snoc X' N g0)
  exact ⟨s₂, o, st _ k1, k2⟩
/-! objects -/
theorem FdC.fld {f : String × String × Value} {c : Cell} (F : FdC Z C f c) (hc : h[a]? = some c) : Fld Z h a C f.1 f.2.1 f.2.2 := by
  obtain ⟨cf, k, i, fd, h1, h2, h3, h4, h5, h6⟩ := F
  exact ⟨c, cf, k, i, fd, hc, h1, h2, h3, h4, h5, h6⟩
theorem ObC.exa {c : Cell} (H : ObC Z a0 C fs c) (hc : h[a]? = some c) : Exa Z h a C := by
  obtain ⟨⟨k, h1, h2, h3, h4⟩, -⟩ := H
  exact ⟨c, k, hc, h1, h2, h3, h4⟩
theorem Hp.exa {i : Nat} (O : Hp h n0 Ls) (hi : Ls[i]? = some (a, ObC Z a0 C fs)) : Exa Z h a C := by
  obtain ⟨-, c, hc, H⟩ := O.at hi
  exact H.exa hc
theorem Wp.newO {index nn pc' : Nat} (O : Hp h n0 Ls) (w : (Jvm.Cond.classLink my.cls index C).before a0 Z = true) (wi : (Jvm.Cond.instantiable C nn).before a0 Z = true) (wz : (Jvm.Cond.initialized C).before a0 Z = true) (fs : List (String × String × Value)) (hfs : ∀ f ∈ fs, Laid Z a0 C C f.1 f.2.1 ∧ ∃ t, parseFieldDescriptor f.2.1 = some t ∧ defaultValue t = f.2.2)
    (hd : decode B pc = .ok (.new index, 3)) (hc : cells + 1 ≤ R.cells) (hl : slots + nn ≤ R.slots) (hp : pc + 3 = pc') (r : ∀ h' a, Hp h' n0 ((a, ObC Z a0 C fs) :: Ls) → Wp l Z R my B ml ret n0 Q h' (cells + 1) (slots + nn) pc' L (.ref a :: S)) : Wp l Z R my B ml ret n0 Q h cells slots pc L S := by
  intro p e s m args below meth c' T locs K X eT N
  subst hp
  obtain ⟨T', h', X', e', E, A, D, -, st⟩ := RoadKit.newO X K.1 K.2.2.2.1 K.2.2.2.2.1 w wi wz eT (g := mkF m pc L S) rfl (hb K.2.1 hd) hc hl
  obtain ⟨c, kk, a1, a2, a3, a4, a5⟩ := A
  have O' : Hp h' n0 ((h.size, ObC Z a0 C fs) :: Ls) := O.new E a1 ⟨⟨kk, a2, a3, a4, a5⟩, fun f hf => by
    obtain ⟨q1, t, q2, q3⟩ := hfs f hf
    obtain ⟨c2, cf, k, i, fd, b1, b2, b3, b4, b5, b6, b7⟩ := D q1 q2
    cases a1.symm.trans b1
    exact ⟨⟨cf, k, i, fd, b2, b3, b4, b5, b6, by rw [← q3]; exact b7⟩, q1, t, q2⟩⟩
  obtain ⟨s₂, o, k1, k2⟩ := r h' h.size O' p e s m args below meth c' T' locs K X' e' N
  exact ⟨s₂, o, st _ k1, k2⟩
theorem Wp.getfield {i j index pc' : Nat} (O : Hp h n0 Ls) (hi : Ls[i]? = some (a, ObC Z a0 C fs)) (hj : fs[j]? = some (n, d, v)) (w : (Jvm.Cond.fieldLink my.cls index C n d).before a0 Z = true) (hd : decode B pc = .ok (.getfield index, 3)) (hp : pc + 3 = pc') (r : Wp l Z R my B ml ret n0 Q h cells slots pc' L (v :: S)) : Wp l Z R my B ml ret n0 Q h cells slots pc L (.ref a :: S) := by
  subst hp
  obtain ⟨-, c, hc, H⟩ := O.at hi
  have F := ((H.2 _ (List.mem_of_getElem? hj)).1).fld hc
  exact Wp.moved (fun {p e s m args below meth c' T locs} K X eT => RoadKit.getF X K.1 K.2.2.2.1 K.2.2.2.2.1 (host := "") (Or.inl w) Via.refl eT F (g := mkF m pc L (.ref a :: S)) rfl rfl (hb K.2.1 hd)) r
theorem Wp.putfield {index kk pc' : Nat} {old : Value} (O : Hp h n0 (LA ++ (a, ObC Z a0 C (F1 ++ (n, d, old) :: F2)) :: LB)) (w : (Jvm.Cond.fieldLink my.cls index C n d).before a0 Z = true) (Lw : (Jvm.Cond.lays C C n d).before a0 Z = true ∨ ((Jvm.Cond.laysFinal C C n d).before a0 Z = true ∧ my.cls = C ∧ my.name = "<init>")) (wi : (Jvm.Cond.instantiable C kk).before a0 Z = true)
    (hty : parseFieldDescriptor d = some ty) (hn : narrow ty v = v) (hf : fits ty v = true) (hne : ∀ f ∈ F1 ++ F2, f.1 ≠ n) (hd : decode B pc = .ok (.putfield index, 3)) (hp : pc + 3 = pc') (r : ∀ h', Hp h' n0 (LA ++ (a, ObC Z a0 C (F1 ++ (n, d, v) :: F2)) :: LB) → Wp l Z R my B ml ret n0 Q h' cells slots pc' L S) : Wp l Z R my B ml ret n0 Q h cells slots pc L (v :: .ref a :: S) := by
  intro p e s m args below meth c' T locs K X eT N
  subst hp
  obtain ⟨g0, c, hc, H⟩ := O.2.2 _ (List.mem_append_right _ (List.mem_cons_self ..))
  have Fm := H.2 (n, d, old) (List.mem_append_right _ (List.mem_cons_self ..))
  obtain ⟨T', h', X', e', W, st⟩ := RoadKit.putF X K.1 K.2.2.2.1 K.2.2.2.2.1 (host := "") (Or.inl w) Via.refl eT (Fm.1.fld hc) (H.exa hc) (Lw.imp id fun q => ⟨q.1, q.2.1, K.2.2.2.2.2.1.trans q.2.2⟩) wi hty hn hf (g := mkF m pc L (v :: .ref a :: S)) rfl rfl (hb K.2.1 hd)
  have O' := O.wr W (P' := ObC Z a0 C (F1 ++ (n, d, v) :: F2)) (fun c0 H0 => by
    obtain ⟨⟨k, h1, h2, h3, h4⟩, h5⟩ := H0
    refine ⟨⟨k, h1, h2, h3, fun q => by rw [sz_set]; exact h4 q⟩, fun f hf => ?_⟩
    have old' : ∀ f ∈ F1 ++ F2, FdC Z C f (c0.setSlot (RoadKit.slotOf Z C n d) v) ∧ Laid Z a0 C C f.1 f.2.1 ∧ ∃ t, parseFieldDescriptor f.2.1 = some t := fun f hf => by
      obtain ⟨⟨cf, kf, i, fd, b1, b2, b3, b4, b5, b6⟩, q1, t, q2⟩ := h5 f (by
        rcases List.mem_append.mp hf with u | u
        · exact List.mem_append_left _ u
        · exact List.mem_append_right _ (List.mem_cons_of_mem _ u))
      have ne := slot_ne q1 Fm.2.1 (hne f hf) q2 hty
      have es : RoadKit.slotOf Z C f.1 f.2.1 = fd.slot := by simp [RoadKit.slotOf, b1]
      refine ⟨⟨cf, kf, i, fd, b1, b2, b3, b4, b5, ?_⟩, q1, t, q2⟩
      show (c0.slots.setIfInBounds (RoadKit.slotOf Z C n d) v)[fd.slot]? = _
      rw [Array.getElem?_setIfInBounds_ne (by rw [← es]; exact Ne.symm ne)]; exact b6
    rcases List.mem_append.mp hf with u | u
    · exact old' f (List.mem_append_left _ u)
    · rcases List.mem_cons.mp u with rfl | u
      · obtain ⟨⟨cf, kf, i, fd, b1, b2, b3, b4, b5, b6⟩, q1, t, q2⟩ := h5 (n, d, old) (List.mem_append_right _ (List.mem_cons_self ..))
        have es : RoadKit.slotOf Z C n d = fd.slot := by
          have b1' : Z.fieldFound? C n d = some (cf, kf, i, fd) := b1
          simp [RoadKit.slotOf, b1']
        have hlt : fd.slot < c0.slots.size := (Array.getElem?_eq_some_iff.mp b6).1
        refine ⟨⟨cf, kf, i, fd, b1, b2, b3, b4, b5, ?_⟩, q1, t, q2⟩
        show (c0.slots.setIfInBounds (RoadKit.slotOf Z C n d) v)[fd.slot]? = _
        rw [es, Array.getElem?_setIfInBounds_self_of_lt hlt]
      · exact old' f (List.mem_append_right _ u))
  obtain ⟨s₂, o, k1, k2⟩ := r h' O' p e s m args below meth c' T' _ K X' e' (Fr.snoc X' N g0)
  exact ⟨s₂, o, st _ k1, k2⟩
end Heap
abbrev rmk (f c s w : Nat) : Room := { frames := f, cells := c, slots := s, locals := w }
end Jvm.OwnKit
namespace Jvm.OwnKit
open Sem ClassFile Op Lib Jvm.Stand Jvm.Free Jvm.LawKit Jvm.RoadKit
/-! more of the logic: an array's class by its name, clone, checkcast, arraycopy, a private method -/
section More
variable {l : Launch} {Z : State} {R : Room} {my : MethodName} {B : ByteArray} {ml : Nat} {ret : Option FieldType} {n0 : Nat} {Q : Option Value → Heap → Prop} {h h' : Heap} {cells slots pc : Nat} {L : Array Slot} {S : List Value} {a0 : Array Value} {a b : Addr} {P P' : Cell → Prop} {Ls Ls' LA LB : List (Addr × (Cell → Prop))} {k kb : ClassId} {ty : FieldType} {vs vd : List Value} {C n d : String} {v : Value}
theorem Wp.newarrE {aty : ArrayType} {nn : Int32} {m pc' cap : Nat} {ad : String} (O : Hp h n0 Ls) (w : (Jvm.Cond.arrayClass (newarray.typeOf aty)).before a0 Z = true) (hd : decode B pc = .ok (.newarray aty, 2)) (had : "[" ++ (newarray.typeOf aty).toString = ad) (hn : ¬ nn < 0) (hm : nn.toNatClampNeg = m) (hcap : m ≤ cap) (hb' : cap * 8 ≤ 536870912) (hc : cells + 1 ≤ R.cells) (hl : slots + cap ≤ R.slots) (hp : pc + 2 = pc')
    (r : ∀ h' a k, Z.vm.findClass ad = some k → Hp h' n0 ((a, ArC Z k (newarray.typeOf aty) (List.replicate m (defaultValue (newarray.typeOf aty)))) :: Ls) → Wp l Z R my B ml ret n0 Q h' (cells + 1) (slots + cap) pc' L (.ref a :: S)) : Wp l Z R my B ml ret n0 Q h cells slots pc L (.int nn :: S) := by
  intro p e s m' args below meth c T locs K X eT N
  subst hp hm
  obtain ⟨T', h', cA, X', e', E, A, Ex, st⟩ := RoadKit.newPE X K.1 K.2.2.2.1 w eT (g := mkF m' pc L (.int nn :: S)) rfl (hb K.2.1 hd) rfl hn hcap hb' hc hl had
  have O' : Hp h' n0 ((h.size, ArC Z cA (newarray.typeOf aty) (List.replicate nn.toNatClampNeg (defaultValue (newarray.typeOf aty)))) :: Ls) := O.new E A.1 ⟨A.2.1, A.2.2, rfl, by simp [newA], fun v hv => by rw [List.eq_of_mem_replicate hv]; exact default_fits _⟩
  obtain ⟨c2, kk, x1, x2, -⟩ := Ex
  cases A.1.symm.trans x1
  obtain ⟨s₂, o, k1, k2⟩ := r h' h.size cA x2 O' p e s m' args below meth c T' locs K X' e' N
  exact ⟨s₂, o, st _ k1, k2⟩
theorem ArC.exa {c : Cell} (H : ArC Z k ty vs c) (hk : Z.vm.findClass C = some k) (hc : h[a]? = some c) : Exa Z h a C := by
  obtain ⟨⟨q1, kk, q2, comp, q3⟩, h2, rfl, -⟩ := H
  refine ⟨c, kk, hc, hk, q2, ?_, fun q => by rw [q3] at q; cases q⟩
  cases hq : c.vm <;> first | rfl | exact absurd hq (q1 _)
theorem Wp.clone {i index pc' cap : Nat} (O : Hp h n0 Ls) (hi : Ls[i]? = some (a, ArC Z k ty vs)) (hk : Z.vm.findClass C = some k)
    (w1 : (Jvm.Cond.methodLink my.cls index ⟨C, "clone", "()Ljava/lang/Object;"⟩).before a0 Z = true) (w2 : (Jvm.Cond.sameMethod C "java/lang/Object" "clone" "()Ljava/lang/Object;").before a0 Z = true) (w3 : (Jvm.Cond.native ⟨"java/lang/Object", "clone", "()Ljava/lang/Object;"⟩).before a0 Z = true)
    (w4 : (Jvm.Cond.instanceMethod ⟨"java/lang/Object", "clone", "()Ljava/lang/Object;"⟩).before a0 Z = true) (w5 : (Jvm.Cond.selects C ⟨C, "clone", "()Ljava/lang/Object;"⟩ ⟨"java/lang/Object", "clone", "()Ljava/lang/Object;"⟩).before a0 Z = true) (w6 : (Jvm.Cond.castable C "java/lang/Cloneable").before a0 Z = true)
    {W : Nat} (hsz : L.size = ml) (hW : (S.map fun v => v.category).sum ≤ W) (hf : 1 ≤ R.frames) (hl : W + 14 ≤ R.locals) (hcap : vs.length ≤ cap) (hc : cells + 1 ≤ R.cells) (hs : slots + cap ≤ R.slots) (hd : decode B pc = .ok (.invokevirtual index, 3)) (hp : pc + 3 = pc')
    (r : ∀ h' b, Hp h' n0 ((b, ArC Z k ty vs) :: Ls) → Wp l Z R my B ml ret n0 Q h' (cells + 1) (slots + cap) pc' L (.ref b :: S)) : Wp l Z R my B ml ret n0 Q h cells slots pc L (.ref a :: S) := by
  intro p e s m args below meth c' T locs K X eT N
  subst hp
  obtain ⟨g0, c, hc', H⟩ := O.at hi
  have FC : FitC Z c := fitC_of (H.arr hc') fun i hi v hv => H.2.2.2.2 v (by rw [H.get] at hv; exact List.mem_of_getElem? hv)
  obtain ⟨T', h', X', e', E, A, -, st⟩ := RoadKit.cloneA X K.1 K.2.2.2.1 K.2.2.2.2.1 w1 w2 w3 w4 w5 w6 eT (H.arr hc') (H.exa hk hc') FC (g := mkF m pc L (.ref a :: S)) rfl (hsz.trans K.2.2.1.symm) rfl (hb K.2.1 hd) hf (by show 2 * 0 + _ ≤ _; rw [Nat.mul_zero, Nat.zero_add]; exact hW) hl (by rw [H.size]; exact hcap) hc hs
  have O' : Hp h' n0 ((h.size, ArC Z k ty vs) :: Ls) := O.new E A.1 ⟨A.2.1, A.2.2, H.2.2.1, H.2.2.2.1, H.2.2.2.2⟩
  obtain ⟨s₂, o, k1, k2⟩ := r h' h.size O' p e s m args below meth c' T' locs K X' e' N
  exact ⟨s₂, o, st _ k1, k2⟩
theorem Hp.insA {i : Nat} (O : Hp h n0 Ls) (hi : Ls[i]? = some (a, ArC Z k ty vs)) (hk : Z.vm.findClass C = some k) : Ins Z h a C true := by
  obtain ⟨-, c, hc, H⟩ := O.at hi
  exact Ins.self (H.exa hk hc)
theorem Wp.checkcast {index pc' : Nat} (I : Ins Z h a C true) (w : (Jvm.Cond.classLink my.cls index C).before a0 Z = true) (hd : decode B pc = .ok (.checkcast index, 3)) (hp : pc + 3 = pc') (r : Wp l Z R my B ml ret n0 Q h cells slots pc' L (.ref a :: S)) : Wp l Z R my B ml ret n0 Q h cells slots pc L (.ref a :: S) := by
  subst hp
  exact Wp.moved (fun {p e s m args below meth c' T locs} K X eT => RoadKit.castY X K.1 K.2.2.2.1 K.2.2.2.2.1 w eT I (g := mkF m pc L (.ref a :: S)) rfl rfl (hb K.2.1 hd)) r
theorem ArC.arv {c : Cell} (H : ArC Z k ty vs c) (hc : h[a]? = some c) (hl : vs.length < 2147483648) (dv : Value) : Arv Z h a k ty (Int32.ofNat vs.length) vs dv := by
  have e : (Int32.ofNat vs.length).toNatClampNeg = vs.length := by rw [Int32.toNatClampNeg, Int32.toInt_ofNat_of_lt (by omega)]; rfl
  have g : ∀ i, i < vs.length → vs[i]? = some (vs.getD i dv) := fun i hi => by rw [List.getD_eq_getElem?_getD, List.getElem?_eq_getElem hi]; rfl
  refine ⟨c, H.arr hc, H.2.2.1, by rw [H.size, e], ?_, fun i hi => ?_, fun i hi => ?_⟩
  · rw [Int32.lt_iff_toInt_lt, Int32.toInt_ofNat_of_lt (by omega), show (0 : Int32).toInt = 0 from rfl]; omega
  · rw [H.size] at hi; rw [H.get, g i hi]
  · rw [H.size] at hi; exact H.2.2.2.2 _ (List.mem_of_getElem? (g i hi))
theorem Arv.arC {z : Int32} {dv : Value} (F : Arv Z h a k ty z vs dv) (hz : z.toNatClampNeg = vs.length) : ∃ c, h[a]? = some c ∧ ArC Z k ty vs c := by
  obtain ⟨c, A, q1, S, -, H, G⟩ := F
  rw [hz] at S
  have g : ∀ i, i < vs.length → vs[i]? = some (vs.getD i dv) := fun i hi => by rw [List.getD_eq_getElem?_getD, List.getElem?_eq_getElem hi]; rfl
  refine ⟨c, A.1, A.2.1, A.2.2, q1, ?_, fun v hv => ?_⟩
  · apply List.ext_getElem?
    intro i
    rw [Array.getElem?_toList]
    by_cases hi : i < vs.length
    · rw [H i (by omega), g i hi]
    · rw [Array.getElem?_eq_none (by omega), List.getElem?_eq_none (by omega)]
  · obtain ⟨i, hi, rfl⟩ := List.getElem_of_mem hv
    have := G i (by omega)
    rw [List.getD_eq_getElem?_getD, List.getElem?_eq_getElem hi] at this
    exact this
theorem range_take {sp nn : Nat} {dv : Value} (h4 : sp + nn ≤ vs.length) : ((List.range nn).map fun i => vs.getD (sp + i) dv) = (vs.drop sp).take nn := by
  apply List.ext_getElem
  · simp; omega
  · intro i h1 h2
    simp at h1
    have : sp + i < vs.length := by omega
    simp [this]
theorem Wp.arraycopy {i index pc' sp dp nn : Nat} {zs zd zn : Int32} (O : Hp h n0 ((b, ArC Z kb ty vd) :: Ls)) (hi : Ls[i]? = some (a, ArC Z k ty vs)) (hty : refKind ty = false)
    (w1 : (Jvm.Cond.methodLink my.cls index Jvm.Stand.acN).before a0 Z = true) (w2 : (Jvm.Cond.native Jvm.Stand.acN).before a0 Z = true) (w3 : (Jvm.Cond.static Jvm.Stand.acN).before a0 Z = true) (w4 : (Jvm.Cond.initialized "java/lang/System").before a0 Z = true)
    (hs1 : zs = Int32.ofNat sp) (hd1 : zd = Int32.ofNat dp) (hn1 : zn = Int32.ofNat nn) (hv : vs.length < 2147483648) (hv' : vd.length < 2147483648) (h4 : sp + nn ≤ vs.length) (h5 : dp + nn ≤ vd.length)
    {W : Nat} (hsz : L.size = ml) (hW : (S.map fun v => v.category).sum ≤ W) (hf : 1 ≤ R.frames) (hl : W + (nativeFrameWords "java/lang/System" "arraycopy" 5 + 11) ≤ R.locals) (hd : decode B pc = .ok (.invokestatic index, 3)) (hp : pc + 3 = pc')
    (r : ∀ h', Hp h' n0 ((b, ArC Z kb ty (vd.take dp ++ (vs.drop sp).take nn ++ vd.drop (dp + nn))) :: Ls) → Wp l Z R my B ml ret n0 Q h' cells slots pc' L S) : Wp l Z R my B ml ret n0 Q h cells slots pc L (.int zn :: .int zd :: .ref b :: .int zs :: .ref a :: S) := by
  intro p e s m args below meth c' T locs K X eT N
  subst hp hs1 hd1 hn1
  have O2 := O
  obtain ⟨o1, o2, o3⟩ := O
  obtain ⟨g0, cb, hcb, Hb⟩ := o3 _ (List.mem_cons_self ..)
  obtain ⟨ga, ca, hca, Ha⟩ := o3 _ (List.mem_cons_of_mem _ (List.mem_of_getElem? hi))
  have n32 : ∀ {q : Nat}, q < 2147483648 → (Int32.ofNat q).toNatClampNeg = q := fun {q} hq => by rw [Int32.toNatClampNeg, Int32.toInt_ofNat_of_lt (by omega)]; rfl
  have nn32 : ∀ {q : Nat}, q < 2147483648 → ¬ Int32.ofNat q < 0 := fun {q} hq => by rw [Int32.lt_iff_toInt_lt, Int32.toInt_ofNat_of_lt (by omega), show (0 : Int32).toInt = 0 from rfl]; omega
  have e1 : (Int32.ofNat sp).toNatClampNeg = sp := n32 (by omega)
  have e2 : (Int32.ofNat dp).toNatClampNeg = dp := n32 (by omega)
  have e3 : (Int32.ofNat nn).toNatClampNeg = nn := n32 (by omega)
  have e4 : (Int32.ofNat vs.length).toNatClampNeg = vs.length := n32 hv
  have e5 : (Int32.ofNat vd.length).toNatClampNeg = vd.length := n32 hv'
  obtain ⟨T', h', L', X', e', N', Kp, V, st⟩ := RoadKit.cpA X K.1 K.2.2.2.1 K.2.2.2.2.1 w1 w2 w3 w4 eT (sp := Int32.ofNat sp) (dp := Int32.ofNat dp) (nn := Int32.ofNat nn) (us := (vs.drop sp).take nn) (Ha.arv hca hv .null) (Hb.arv hcb hv' .null) (Or.inl ⟨rfl, hty⟩)
    (nn32 (by omega)) (nn32 (by omega)) (nn32 (by omega)) (by rw [e1, e3, e4]; exact h4) (by rw [e2, e3, e5]; exact h5) (by rw [e1, e3]; exact (range_take h4).symm) (by rw [e2, e3]; exact h5) N g0 (g := mkF m pc L (.int (Int32.ofNat nn) :: .int (Int32.ofNat dp) :: .ref b :: .int (Int32.ofNat sp) :: .ref a :: S)) rfl (hsz.trans K.2.2.1.symm) rfl (hb K.2.1 hd) hf (by show 2 * 0 + _ ≤ _; rw [Nat.mul_zero, Nat.zero_add]; exact hW) hl
  rw [e2, e3] at V
  have ll : (vd.take dp ++ (vs.drop sp).take nn ++ vd.drop (dp + nn)).length = vd.length := by simp; omega
  obtain ⟨cn, hcn, Hn⟩ := Arv.arC V (by rw [e5, ll])
  have ne := List.pairwise_cons.mp o2
  have O' : Hp h' n0 ((b, ArC Z kb ty (vd.take dp ++ (vs.drop sp).take nn ++ vd.drop (dp + nn))) :: Ls) := by
    refine ⟨Nat.le_trans o1 Kp.1, List.pairwise_cons.mpr ⟨fun q hq => ne.1 q hq, ne.2⟩, fun q hq => ?_⟩
    rcases List.mem_cons.mp hq with rfl | hq
    · exact ⟨g0, cn, hcn, Hn⟩
    · obtain ⟨u1, c2, u2, u3⟩ := o3 q (List.mem_cons_of_mem _ hq)
      exact ⟨u1, c2, Kp.2.1 _ _ u2 (fun z => (ne.1 q hq) (List.mem_singleton.mp z).symm), u3⟩
  obtain ⟨s₂, o, k1, k2⟩ := r h' O' p e s m args below meth c' T' _ K X' e' N'
  exact ⟨s₂, o, st _ k1, k2⟩
theorem Wp.callP {yy y0 : MethodName} {B' : ByteArray} {ml' : Nat} {ret' : Option FieldType} {rm : Room} {Q' : Option Value → Heap → Prop} {index pc' : Nat} {argsL S0 : List Value} {as : Array Value} (M : Met l Z yy B' ml' ret' rm as h n0 Q') (E : Exa Z h a yy.cls)
    (wl : (Jvm.Cond.methodLink my.cls index yy).before a0 Z = true) (wm : (Jvm.Cond.instanceMethod yy).before a0 Z = true) (wp : (Jvm.Cond.privateMethod yy).before a0 Z = true) (wi : (Jvm.Cond.initialized yy.cls).before a0 Z = true) (wc : (Jvm.Cond.code yy B' ml' ret').before a0 Z = true)
    (nf : ∀ s : State, Z.Warmed39 s.vm → NotFace s y0) (wm0 : (Jvm.Cond.instanceMethod y0).before a0 Z = true) (hy0 : y0.cls = yy.cls)
    (hy : yy.cls ≠ "java/lang/invoke/MethodHandle" ∧ yy.cls ≠ "java/lang/invoke/VarHandle") {W : Nat} (hsz : L.size = ml) (hlen : ∀ sig, parseMethodDescriptor yy.desc = some sig → argsL.length = sig.parameters.length) (hst : S0 = argsL.reverse ++ .ref a :: S) (has : (.ref a :: argsL).toArray = as) (hW : (S.map fun v => v.category).sum ≤ W)
    (hf : rm.frames + 1 ≤ R.frames) (hl : W + (ml' + 11) + rm.locals ≤ R.locals) (hc : cells + rm.cells ≤ R.cells) (hs : slots + rm.slots ≤ R.slots) (hd : decode B pc = .ok (.invokevirtual index, 3)) (hp : pc + 3 = pc')
    (r : ∀ v h', Q' v h' → Wp l Z R my B ml ret n0 Q h' (cells + rm.cells) (slots + rm.slots) pc' L (v.toList ++ S)) : Wp l Z R my B ml ret n0 Q h cells slots pc L S0 := by
  intro p e s m args below meth c T locs K X eT N
  subst hp hst
  have hZ := K.2.2.2.1
  obtain ⟨cq, q1, q2⟩ := E.cell
  have hinst : (Jvm.Cond.instanceMethod yy).before args s = true := mvT hZ wm
  have hpriv : s.PrivateAt yy := Cond.privateMethod_at (mvP hZ wp (args := #[]))
  have hsel : (Jvm.Cond.selects yy.cls yy yy).before args s = true := by
    have hi0 : (Jvm.Cond.instanceMethod y0).before args s = true := mvT hZ wm0
    obtain ⟨mk, methM, hnamed, -⟩ := Cond.instanceMethod_spec hi0
    obtain ⟨kr, k1, k2⟩ := nf s hZ mk hnamed
    have fc := findClass_of_methodNamed hnamed
    rw [hy0] at fc
    exact selects_self_of_private fc k1 k2 hpriv hinst hy
  obtain ⟨v, vm₁, ⟨T', L', k', n'⟩, -, X', ⟨Lc, hQ, l', y', z'⟩, st⟩ := X.privateBack K.1 (y := yy) K.2.2.2.2.1 (mvT hZ wl) hinst hsel hpriv (mvT hZ wc) hy (backOf (W := W) (Q := fun v h L => Q' v h ∧ Fr n0 L) (M []) hZ wc wi hf hl) (g := mkF m pc L (argsL.reverse ++ .ref a :: S)) rfl (hsz.trans K.2.2.1.symm) (Steps.refl _) (a := a) (cell := cq) (by rw [eT]; exact q1) q2 (argsL := argsL) (rest := S) hlen rfl (by show 2 * 0 + _ ≤ _; rw [Nat.mul_zero, Nat.zero_add]; exact hW) (hb K.2.1 hd) (fun _ _ => ⟨has, eT, hc, hs⟩)
  dsimp only [Pt.U, Pt.locs, Pt.cells, Pt.slots] at X' l' y' z' st hQ
  subst l' y' z'
  obtain ⟨s₂, o, k1, k2⟩ := r v _ hQ.1 p e s m args below meth c T' _ K X' rfl (Fr.app N hQ.2)
  exact ⟨s₂, o, st.trans k1, k2⟩
end More
end Jvm.OwnKit
namespace Jvm.Pilot.@@N@@
open Jvm Jvm.ClassFile Sem Op Lib Jvm.Free Jvm.Stand Jvm.LawKit Jvm.RoadKit Bundle Jvm.OwnKit Jvm.Pilot.@@N@@.Jvm.D

theorem d0_0 : decode prog_102_method_1_code 0 = .ok (.aload_n 0, 1) := by decide +kernel
theorem d0_1 : decode prog_102_method_1_code 1 = .ok (.invokespecial 1, 3) := by decide +kernel
theorem d0_4 : decode prog_102_method_1_code 4 = .ok (.aload_n 0, 1) := by decide +kernel
theorem d0_5 : decode prog_102_method_1_code 5 = .ok (.aload_n 1, 1) := by decide +kernel
theorem d0_6 : decode prog_102_method_1_code 6 = .ok (.putfield 7, 3) := by decide +kernel
theorem d0_9 : decode prog_102_method_1_code 9 = .ok (.return_, 1) := by decide +kernel
theorem d2_0 : decode prog_102_method_2_code 0 = .ok (.aload_n 0, 1) := by decide +kernel
theorem d2_1 : decode prog_102_method_2_code 1 = .ok (.getfield 13, 3) := by decide +kernel
theorem d2_4 : decode prog_102_method_2_code 4 = .ok (.aload_n 0, 1) := by decide +kernel
theorem d2_5 : decode prog_102_method_2_code 5 = .ok (.getfield 7, 3) := by decide +kernel
theorem d2_8 : decode prog_102_method_2_code 8 = .ok (.arraylength, 1) := by decide +kernel
theorem d2_9 : decode prog_102_method_2_code 9 = .ok (.if_icmp .ne 7, 3) := by decide +kernel
theorem d2_12 : decode prog_102_method_2_code 12 = .ok (.iconst 1, 1) := by decide +kernel
theorem d2_13 : decode prog_102_method_2_code 13 = .ok (.goto 4, 3) := by decide +kernel
theorem d2_16 : decode prog_102_method_2_code 16 = .ok (.iconst 0, 1) := by decide +kernel
theorem d2_17 : decode prog_102_method_2_code 17 = .ok (.ireturn, 1) := by decide +kernel
theorem d3_0 : decode prog_102_method_8_code 0 = .ok (.lload_n 1, 1) := by decide +kernel
theorem d3_1 : decode prog_102_method_8_code 1 = .ok (.lconst 0, 1) := by decide +kernel
theorem d3_2 : decode prog_102_method_8_code 2 = .ok (.lcmp, 1) := by decide +kernel
theorem d3_3 : decode prog_102_method_8_code 3 = .ok (.ifCond .lt 19, 3) := by decide +kernel
theorem d3_6 : decode prog_102_method_8_code 6 = .ok (.lload_n 1, 1) := by decide +kernel
theorem d3_7 : decode prog_102_method_8_code 7 = .ok (.aload_n 0, 1) := by decide +kernel
theorem d3_8 : decode prog_102_method_8_code 8 = .ok (.getfield 7, 3) := by decide +kernel
theorem d3_11 : decode prog_102_method_8_code 11 = .ok (.arraylength, 1) := by decide +kernel
theorem d3_12 : decode prog_102_method_8_code 12 = .ok (.aload_n 0, 1) := by decide +kernel
theorem d3_13 : decode prog_102_method_8_code 13 = .ok (.getfield 13, 3) := by decide +kernel
theorem d3_16 : decode prog_102_method_8_code 16 = .ok (.isub, 1) := by decide +kernel
theorem d3_17 : decode prog_102_method_8_code 17 = .ok (.i2l, 1) := by decide +kernel
theorem d3_18 : decode prog_102_method_8_code 18 = .ok (.lcmp, 1) := by decide +kernel
theorem d3_19 : decode prog_102_method_8_code 19 = .ok (.ifCond .le 11, 3) := by decide +kernel
theorem d3_22 : decode prog_102_method_8_code 22 = .ok (.new 37, 3) := by decide +kernel
theorem d3_25 : decode prog_102_method_8_code 25 = .ok (.dup, 1) := by decide +kernel
theorem d3_26 : decode prog_102_method_8_code 26 = .ok (.invokespecial 39, 3) := by decide +kernel
theorem d3_29 : decode prog_102_method_8_code 29 = .ok (.athrow, 1) := by decide +kernel
theorem d3_30 : decode prog_102_method_8_code 30 = .ok (.aload_n 0, 1) := by decide +kernel
theorem d3_31 : decode prog_102_method_8_code 31 = .ok (.getfield 7, 3) := by decide +kernel
theorem d3_34 : decode prog_102_method_8_code 34 = .ok (.aload_n 0, 1) := by decide +kernel
theorem d3_35 : decode prog_102_method_8_code 35 = .ok (.getfield 13, 3) := by decide +kernel
theorem d3_38 : decode prog_102_method_8_code 38 = .ok (.aload_n 0, 1) := by decide +kernel
theorem d3_39 : decode prog_102_method_8_code 39 = .ok (.getfield 13, 3) := by decide +kernel
theorem d3_42 : decode prog_102_method_8_code 42 = .ok (.lload_n 1, 1) := by decide +kernel
theorem d3_43 : decode prog_102_method_8_code 43 = .ok (.l2i, 1) := by decide +kernel
theorem d3_44 : decode prog_102_method_8_code 44 = .ok (.iadd, 1) := by decide +kernel
theorem d3_45 : decode prog_102_method_8_code 45 = .ok (.invokestatic 40, 3) := by decide +kernel
theorem d3_48 : decode prog_102_method_8_code 48 = .ok (.astore_n 3, 1) := by decide +kernel
theorem d3_49 : decode prog_102_method_8_code 49 = .ok (.aload_n 0, 1) := by decide +kernel
theorem d3_50 : decode prog_102_method_8_code 50 = .ok (.dup, 1) := by decide +kernel
theorem d3_51 : decode prog_102_method_8_code 51 = .ok (.getfield 13, 3) := by decide +kernel
theorem d3_54 : decode prog_102_method_8_code 54 = .ok (.lload_n 1, 1) := by decide +kernel
theorem d3_55 : decode prog_102_method_8_code 55 = .ok (.l2i, 1) := by decide +kernel
theorem d3_56 : decode prog_102_method_8_code 56 = .ok (.iadd, 1) := by decide +kernel
theorem d3_57 : decode prog_102_method_8_code 57 = .ok (.putfield 13, 3) := by decide +kernel
theorem d3_60 : decode prog_102_method_8_code 60 = .ok (.aload_n 3, 1) := by decide +kernel
theorem d3_61 : decode prog_102_method_8_code 61 = .ok (.areturn, 1) := by decide +kernel
theorem d4_0 : decode jdk_65_method_132_code 0 = .ok (.iload_n 1, 1) := by decide +kernel
theorem d4_1 : decode jdk_65_method_132_code 1 = .ok (.ifCond .ne 9, 3) := by decide +kernel
theorem d4_4 : decode jdk_65_method_132_code 4 = .ok (.iload_n 2, 1) := by decide +kernel
theorem d4_5 : decode jdk_65_method_132_code 5 = .ok (.aload_n 0, 1) := by decide +kernel
theorem d4_6 : decode jdk_65_method_132_code 6 = .ok (.arraylength, 1) := by decide +kernel
theorem d4_7 : decode jdk_65_method_132_code 7 = .ok (.if_icmp .eq 10, 3) := by decide +kernel
theorem d4_10 : decode jdk_65_method_132_code 10 = .ok (.aload_n 0, 1) := by decide +kernel
theorem d4_11 : decode jdk_65_method_132_code 11 = .ok (.iload_n 1, 1) := by decide +kernel
theorem d4_12 : decode jdk_65_method_132_code 12 = .ok (.iload_n 2, 1) := by decide +kernel
theorem d4_13 : decode jdk_65_method_132_code 13 = .ok (.invokestatic 339, 3) := by decide +kernel
theorem d4_16 : decode jdk_65_method_132_code 16 = .ok (.areturn, 1) := by decide +kernel
theorem d4_17 : decode jdk_65_method_132_code 17 = .ok (.aload_n 0, 1) := by decide +kernel
theorem d4_18 : decode jdk_65_method_132_code 18 = .ok (.invokevirtual 310, 3) := by decide +kernel
theorem d4_21 : decode jdk_65_method_132_code 21 = .ok (.checkcast 311, 3) := by decide +kernel
theorem d4_24 : decode jdk_65_method_132_code 24 = .ok (.areturn, 1) := by decide +kernel
theorem d5_0 : decode prog_102_method_10_code 0 = .ok (.aload_n 0, 1) := by decide +kernel
theorem d5_1 : decode prog_102_method_10_code 1 = .ok (.getfield 7, 3) := by decide +kernel
theorem d5_4 : decode prog_102_method_10_code 4 = .ok (.aload_n 0, 1) := by decide +kernel
theorem d5_5 : decode prog_102_method_10_code 5 = .ok (.getfield 13, 3) := by decide +kernel
theorem d5_8 : decode prog_102_method_10_code 8 = .ok (.aload_n 0, 1) := by decide +kernel
theorem d5_9 : decode prog_102_method_10_code 9 = .ok (.getfield 7, 3) := by decide +kernel
theorem d5_12 : decode prog_102_method_10_code 12 = .ok (.arraylength, 1) := by decide +kernel
theorem d5_13 : decode prog_102_method_10_code 13 = .ok (.invokestatic 40, 3) := by decide +kernel
theorem d5_16 : decode prog_102_method_10_code 16 = .ok (.astore_n 1, 1) := by decide +kernel
theorem d5_17 : decode prog_102_method_10_code 17 = .ok (.aload_n 0, 1) := by decide +kernel
theorem d5_18 : decode prog_102_method_10_code 18 = .ok (.aload_n 0, 1) := by decide +kernel
theorem d5_19 : decode prog_102_method_10_code 19 = .ok (.getfield 7, 3) := by decide +kernel
theorem d5_22 : decode prog_102_method_10_code 22 = .ok (.arraylength, 1) := by decide +kernel
theorem d5_23 : decode prog_102_method_10_code 23 = .ok (.putfield 13, 3) := by decide +kernel
theorem d5_26 : decode prog_102_method_10_code 26 = .ok (.aload_n 1, 1) := by decide +kernel
theorem d5_27 : decode prog_102_method_10_code 27 = .ok (.areturn, 1) := by decide +kernel
theorem d6_0 : decode jdk_65_method_133_code 0 = .ok (.iload_n 1, 1) := by decide +kernel
theorem d6_1 : decode jdk_65_method_133_code 1 = .ok (.iload_n 2, 1) := by decide +kernel
theorem d6_2 : decode jdk_65_method_133_code 2 = .ok (.invokestatic 343, 3) := by decide +kernel
theorem d6_5 : decode jdk_65_method_133_code 5 = .ok (.iload_n 2, 1) := by decide +kernel
theorem d6_6 : decode jdk_65_method_133_code 6 = .ok (.iload_n 1, 1) := by decide +kernel
theorem d6_7 : decode jdk_65_method_133_code 7 = .ok (.isub, 1) := by decide +kernel
theorem d6_8 : decode jdk_65_method_133_code 8 = .ok (.istore_n 3, 1) := by decide +kernel
theorem d6_9 : decode jdk_65_method_133_code 9 = .ok (.iload_n 3, 1) := by decide +kernel
theorem d6_10 : decode jdk_65_method_133_code 10 = .ok (.newarray .byte, 2) := by decide +kernel
theorem d6_12 : decode jdk_65_method_133_code 12 = .ok (.astore 4, 2) := by decide +kernel
theorem d6_14 : decode jdk_65_method_133_code 14 = .ok (.aload_n 0, 1) := by decide +kernel
theorem d6_15 : decode jdk_65_method_133_code 15 = .ok (.iload_n 1, 1) := by decide +kernel
theorem d6_16 : decode jdk_65_method_133_code 16 = .ok (.aload 4, 2) := by decide +kernel
theorem d6_18 : decode jdk_65_method_133_code 18 = .ok (.iconst 0, 1) := by decide +kernel
theorem d6_19 : decode jdk_65_method_133_code 19 = .ok (.aload_n 0, 1) := by decide +kernel
theorem d6_20 : decode jdk_65_method_133_code 20 = .ok (.arraylength, 1) := by decide +kernel
theorem d6_21 : decode jdk_65_method_133_code 21 = .ok (.iload_n 1, 1) := by decide +kernel
theorem d6_22 : decode jdk_65_method_133_code 22 = .ok (.isub, 1) := by decide +kernel
theorem d6_23 : decode jdk_65_method_133_code 23 = .ok (.iload_n 3, 1) := by decide +kernel
theorem d6_24 : decode jdk_65_method_133_code 24 = .ok (.invokestatic 304, 3) := by decide +kernel
theorem d6_27 : decode jdk_65_method_133_code 27 = .ok (.invokestatic 150, 3) := by decide +kernel
theorem d6_30 : decode jdk_65_method_133_code 30 = .ok (.aload 4, 2) := by decide +kernel
theorem d6_32 : decode jdk_65_method_133_code 32 = .ok (.areturn, 1) := by decide +kernel
theorem d7_0 : decode jdk_65_method_131_code 0 = .ok (.iload_n 1, 1) := by decide +kernel
theorem d7_1 : decode jdk_65_method_131_code 1 = .ok (.iload_n 0, 1) := by decide +kernel
theorem d7_2 : decode jdk_65_method_131_code 2 = .ok (.if_icmp .ge 35, 3) := by decide +kernel
theorem d7_5 : decode jdk_65_method_131_code 5 = .ok (.new 43, 3) := by decide +kernel
theorem d7_8 : decode jdk_65_method_131_code 8 = .ok (.dup, 1) := by decide +kernel
theorem d7_9 : decode jdk_65_method_131_code 9 = .ok (.new 45, 3) := by decide +kernel
theorem d7_12 : decode jdk_65_method_131_code 12 = .ok (.dup, 1) := by decide +kernel
theorem d7_13 : decode jdk_65_method_131_code 13 = .ok (.invokespecial 47, 3) := by decide +kernel
theorem d7_16 : decode jdk_65_method_131_code 16 = .ok (.iload_n 0, 1) := by decide +kernel
theorem d7_17 : decode jdk_65_method_131_code 17 = .ok (.invokevirtual 54, 3) := by decide +kernel
theorem d7_23 : decode jdk_65_method_131_code 23 = .ok (.invokevirtual 50, 3) := by decide +kernel
theorem d7_26 : decode jdk_65_method_131_code 26 = .ok (.iload_n 1, 1) := by decide +kernel
theorem d7_27 : decode jdk_65_method_131_code 27 = .ok (.invokevirtual 54, 3) := by decide +kernel
theorem d7_30 : decode jdk_65_method_131_code 30 = .ok (.invokevirtual 61, 3) := by decide +kernel
theorem d7_33 : decode jdk_65_method_131_code 33 = .ok (.invokespecial 65, 3) := by decide +kernel
theorem d7_36 : decode jdk_65_method_131_code 36 = .ok (.athrow, 1) := by decide +kernel
theorem d7_37 : decode jdk_65_method_131_code 37 = .ok (.return_, 1) := by decide +kernel
theorem d8_0 : decode jdk_29_method_69_code 0 = .ok (.iload_n 0, 1) := by decide +kernel
theorem d8_1 : decode jdk_29_method_69_code 1 = .ok (.iload_n 1, 1) := by decide +kernel
theorem d8_2 : decode jdk_29_method_69_code 2 = .ok (.if_icmp .gt 7, 3) := by decide +kernel
theorem d8_5 : decode jdk_29_method_69_code 5 = .ok (.iload_n 0, 1) := by decide +kernel
theorem d8_6 : decode jdk_29_method_69_code 6 = .ok (.goto 4, 3) := by decide +kernel
theorem d8_9 : decode jdk_29_method_69_code 9 = .ok (.iload_n 1, 1) := by decide +kernel
theorem d8_10 : decode jdk_29_method_69_code 10 = .ok (.ireturn, 1) := by decide +kernel
theorem d9_0 : decode prog_102_method_3_code 0 = .ok (.aload_n 0, 1) := by decide +kernel
theorem d9_1 : decode prog_102_method_3_code 1 = .ok (.iconst 1, 1) := by decide +kernel
theorem d9_2 : decode prog_102_method_3_code 2 = .ok (.invokevirtual 17, 3) := by decide +kernel
theorem d9_5 : decode prog_102_method_3_code 5 = .ok (.aload_n 0, 1) := by decide +kernel
theorem d9_6 : decode prog_102_method_3_code 6 = .ok (.getfield 7, 3) := by decide +kernel
theorem d9_9 : decode prog_102_method_3_code 9 = .ok (.aload_n 0, 1) := by decide +kernel
theorem d9_10 : decode prog_102_method_3_code 10 = .ok (.dup, 1) := by decide +kernel
theorem d9_11 : decode prog_102_method_3_code 11 = .ok (.getfield 13, 3) := by decide +kernel
theorem d9_14 : decode prog_102_method_3_code 14 = .ok (.dup_x1, 1) := by decide +kernel
theorem d9_15 : decode prog_102_method_3_code 15 = .ok (.iconst 1, 1) := by decide +kernel
theorem d9_16 : decode prog_102_method_3_code 16 = .ok (.iadd, 1) := by decide +kernel
theorem d9_17 : decode prog_102_method_3_code 17 = .ok (.putfield 13, 3) := by decide +kernel
theorem d9_20 : decode prog_102_method_3_code 20 = .ok (.baload, 1) := by decide +kernel
theorem d9_21 : decode prog_102_method_3_code 21 = .ok (.sipush 255, 3) := by decide +kernel
theorem d9_24 : decode prog_102_method_3_code 24 = .ok (.iand, 1) := by decide +kernel
theorem d9_25 : decode prog_102_method_3_code 25 = .ok (.ireturn, 1) := by decide +kernel
theorem d10_0 : decode prog_102_method_11_code 0 = .ok (.aload_n 0, 1) := by decide +kernel
theorem d10_1 : decode prog_102_method_11_code 1 = .ok (.getfield 7, 3) := by decide +kernel
theorem d10_4 : decode prog_102_method_11_code 4 = .ok (.arraylength, 1) := by decide +kernel
theorem d10_5 : decode prog_102_method_11_code 5 = .ok (.aload_n 0, 1) := by decide +kernel
theorem d10_6 : decode prog_102_method_11_code 6 = .ok (.getfield 13, 3) := by decide +kernel
theorem d10_9 : decode prog_102_method_11_code 9 = .ok (.isub, 1) := by decide +kernel
theorem d10_10 : decode prog_102_method_11_code 10 = .ok (.iload_n 1, 1) := by decide +kernel
theorem d10_11 : decode prog_102_method_11_code 11 = .ok (.if_icmp .ge 11, 3) := by decide +kernel
theorem d10_14 : decode prog_102_method_11_code 14 = .ok (.new 37, 3) := by decide +kernel
theorem d10_17 : decode prog_102_method_11_code 17 = .ok (.dup, 1) := by decide +kernel
theorem d10_18 : decode prog_102_method_11_code 18 = .ok (.invokespecial 39, 3) := by decide +kernel
theorem d10_21 : decode prog_102_method_11_code 21 = .ok (.athrow, 1) := by decide +kernel
theorem d10_22 : decode prog_102_method_11_code 22 = .ok (.return_, 1) := by decide +kernel

theorem pn_p : plainName "com/example/shardwell/shardwell/PayloadReader" = true := by first | (simp [plainName, overriddenIn]; done) | decide +kernel
theorem pn_l : plainName "com/example/shardwell/shardwell/PayloadReaderAtEndPinLaw" = true := by first | (simp [plainName, overriddenIn]; done) | decide +kernel
theorem pn_a : plainName "java/util/Arrays" = true := by first | (simp [plainName, overriddenIn]; done) | decide +kernel
theorem own_ofF {l : Launch} {Z : State} {R : Room} {my : MethodName} {B : ByteArray} {ml : Nat} {ret : Option FieldType} {n0 : Nat} {Q : Option Value → Heap → Prop} {h : Heap} {as : Array Value} {L0 : Array Slot} (hpl : plainFor my = true) (ef : ∀ m, entryFrame m as ml = mkF m 0 L0 []) (body : Wp l Z R my B ml ret n0 Q h 0 0 0 L0 []) : Met l Z my B ml ret R as h n0 Q := by
  intro ws
  refine MetFree.of_bodySF hpl hisR ?_
  intro p e s m args below meth c s₁ Bd hml0 hP hK
  obtain ⟨rfl, hZ, hh⟩ := hP
  have X0 := Stand.of_body Bd
  have e0 : s₁.heap = h := by rw [← hh, Bd.state]; rfl
  obtain ⟨s₂, o, k1, k2⟩ := body p e s m _ below meth c s₁ [] ⟨Bd.exec, Bd.bytes, hml0, hZ, findClass_of_methodNamed Bd.named, (name_of_methodNamed Bd.named Bd.method).1, Bd.returns, Bd.notSynchronized⟩ X0 e0 (Fr.nil n0)
  exact ⟨s₂, o, castTop (ef m) k1, k2⟩

theorem pd_0 : parseMethodDescriptor "(II)V" = some ⟨[.int, .int], none⟩ := by decide +kernel
theorem pd_1 : parseMethodDescriptor "(II)I" = some ⟨[.int, .int], some .int⟩ := by decide +kernel
theorem pd_2 : parseMethodDescriptor "([BII)[B" = some ⟨[(.array .byte), .int, .int], some (.array .byte)⟩ := by decide +kernel
theorem pd_3 : parseMethodDescriptor "(I)V" = some ⟨[.int], none⟩ := by decide +kernel
theorem pd_4 : parseMethodDescriptor "([B)V" = some ⟨[(.array .byte)], none⟩ := by decide +kernel
theorem pd_5 : parseMethodDescriptor "()Z" = some ⟨[], some .boolean⟩ := by decide +kernel
theorem pd_6 : parseMethodDescriptor "(J)[B" = some ⟨[.long], some (.array .byte)⟩ := by decide +kernel
theorem pd_7 : parseMethodDescriptor "()I" = some ⟨[], some .int⟩ := by decide +kernel
theorem pd_8 : parseMethodDescriptor "()[B" = some ⟨[], some (.array .byte)⟩ := by decide +kernel

/-! small naturals as ints -/
theorem own_lt {i n : Nat} (hi : i < 2147483648) (hn : n < 2147483648) : (Int32.ofNat i < Int32.ofNat n) ↔ i < n := by
  rw [Int32.lt_iff_toInt_lt, Int32.toInt_ofNat_of_lt (by omega), Int32.toInt_ofNat_of_lt (by omega)]
  omega
theorem own_nn {n : Nat} (hn : n < 2147483648) : ¬ Int32.ofNat n < 0 := by
  rw [Int32.lt_iff_toInt_lt, Int32.toInt_ofNat_of_lt (by omega), show (0 : Int32).toInt = 0 from rfl]
  omega
theorem own_n32 {n : Nat} (hn : n < 2147483648) : (Int32.ofNat n).toNatClampNeg = n := by
  rw [Int32.toNatClampNeg, Int32.toInt_ofNat_of_lt (by omega)]; rfl
theorem own_inj {i n : Nat} (hi : i < 2147483648) (hn : n < 2147483648) : (Int32.ofNat i = Int32.ofNat n) ↔ i = n := by
  rw [← Int32.toInt_inj, Int32.toInt_ofNat_of_lt (by omega), Int32.toInt_ofNat_of_lt (by omega)]
  omega
theorem own_add (i j : Nat) : Int32.ofNat i + Int32.ofNat j = Int32.ofNat (i + j) := (Int32.ofNat_add i j).symm
theorem own_sub {i j : Nat} (h : j ≤ i) : Int32.ofNat i - Int32.ofNat j = Int32.ofNat (i - j) := by
  have e : Int32.ofNat i = Int32.ofNat (i - j) + Int32.ofNat j := by rw [own_add]; congr 1; omega
  rw [e, Int32.add_sub_cancel]
theorem own_one (i : Nat) : Int32.ofNat i + (1 : Int32) = Int32.ofNat (i + 1) := (Int32.ofNat_add i 1).symm
theorem own_toInt {n : Nat} (hn : n < 2147483648) : (Int32.ofNat n).toInt = n := Int32.toInt_ofNat_of_lt (by omega)
/-- an int that isn't negative is a natural -/
theorem own_nat {x : Int32} {b : Nat} (h0 : 0 ≤ x.toInt) (hb : x.toInt ≤ b) : ∃ n : Nat, n ≤ b ∧ n < 2147483648 ∧ x = Int32.ofNat n := by
  have := x.toInt_lt
  refine ⟨x.toInt.toNat, by omega, by omega, Int32.toInt_inj.mp ?_⟩
  rw [own_toInt (by omega)]; omega

def own_e (p n : Nat) : Int32 := if p = n then 1 else 0
theorem own_r0 (k : Nat) : True := trivial
theorem own_i64 {n : Nat} (h : n < 2147483648) : ((Int32.ofNat n).toInt64).toInt = n := by rw [c_i2l, own_toInt h]
theorem own_ge0 {n : Nat} (h : n < 2147483648) : ¬ (Int32.ofNat n).toInt64 < 0 := by
  rw [Int64.lt_iff_toInt_lt, own_i64 h, show (0 : Int64).toInt = 0 from rfl]; omega
theorem own_lt64 {a b : Nat} (ha : a < 2147483648) (hb : b < 2147483648) : (Int32.ofNat a).toInt64 < (Int32.ofNat b).toInt64 ↔ a < b := by
  rw [Int64.lt_iff_toInt_lt, own_i64 ha, own_i64 hb]; omega
theorem own_back (n : Nat) : ((Int32.ofNat n).toInt64).toInt32 = Int32.ofNat n := by simp
theorem own_seven (x : Int32) : 0 ≤ (x &&& (7 : Int32)).toInt ∧ (x &&& (7 : Int32)).toInt ≤ (7 : Nat) := by
  have h1 := c_and x 7 (by decide)
  have e : (7 : Int32).toInt = 7 := rfl
  omega
theorem own_mod (x : Int32) (n : Nat) (h0 : 0 < n) (h1 : n < 100) : 0 ≤ ((x &&& (2147483647 : Int32)) % Int32.ofNat n).toInt ∧ ((x &&& (2147483647 : Int32)) % Int32.ofNat n).toInt ≤ (n - 1 : Nat) := by
  have h2 := c_and x 2147483647 (by decide)
  have h3 := (c_irem (x &&& 2147483647) (Int32.ofNat n) n (own_toInt (by omega))).1 h2.1
  have h4 := Int.emod_lt_of_pos (x &&& 2147483647).toInt (show (0 : Int) < n by omega)
  have h5 := Int.emod_nonneg (x &&& 2147483647).toInt (show (n : Int) ≠ 0 by omega)
  omega

set_option maxRecDepth 65536 in
set_option maxHeartbeats 40000000 in
theorem rm_min (l : Launch) (Z : State) (a0 : Array Value) (hw : ∀ d ∈ tables_1, d.before a0 Z = true) (x y : Nat) (hx : x < 100) (hy : y < 100) (h : Heap) (n0 : Nat)  :
    Met l Z (⟨"java/lang/Math", "min", "(II)I"⟩ : MethodName) jdk_29_method_69_code 2 (some .int) (rmk 0 0 0 0) #[(.int (Int32.ofNat x)), (.int (Int32.ofNat y))] h n0 (fun v h' => v = some (.int (Int32.ofNat (min x y))) ∧ h = h') := by
  refine own_ofF (L0 := #[.val (.int (Int32.ofNat x)), .val (.int (Int32.ofNat y))]) (Jvm.Free.JP.mathPlain rfl (by decide +kernel)) (fun m => rfl) ?_
  refine Wp.iloadN (pc' := 1) d8_0 rfl rfl ?_
  refine Wp.iloadN (pc' := 2) d8_1 rfl rfl ?_
  by_cases c2 : (Int32.ofNat y) < (Int32.ofNat x)
  · refine Wp.icmpY (pc' := 9) d8_2 c2 (by decide) (by decide) ?_
    refine Wp.iloadN (pc' := 10) d8_9 rfl rfl ?_
    exact Wp.retI rfl d8_10 (by decide) (by decide) ⟨congrArg (fun q => some (Value.int (Int32.ofNat q))) (by rw [own_lt (by omega) (by omega)] at c2; omega), rfl⟩
  · refine Wp.icmpN (pc' := 5) d8_2 c2 rfl ?_
    refine Wp.iloadN (pc' := 6) d8_5 rfl rfl ?_
    refine Wp.goto (pc' := 10) d8_6 (by decide) (by decide) ?_
    exact Wp.retI rfl d8_10 (by decide) (by decide) ⟨congrArg (fun q => some (Value.int (Int32.ofNat q))) (by rw [own_lt (by omega) (by omega)] at c2; omega), rfl⟩

set_option maxRecDepth 65536 in
set_option maxHeartbeats 40000000 in
theorem rm_chk (l : Launch) (Z : State) (a0 : Array Value) (hw : ∀ d ∈ tables_1, d.before a0 Z = true) (f t : Nat) (hf : f ≤ t) (ht : t < 100) (h : Heap) (n0 : Nat)  :
    Met l Z (⟨"java/util/Arrays", "checkLength", "(II)V"⟩ : MethodName) jdk_65_method_131_code 2 none (rmk 0 0 0 0) #[(.int (Int32.ofNat f)), (.int (Int32.ofNat t))] h n0 (fun v h' => v = none ∧ h = h') := by
  refine Met.of (L0 := #[.val (.int (Int32.ofNat f)), .val (.int (Int32.ofNat t))]) pn_a (fun m => rfl) ?_
  refine Wp.iloadN (pc' := 1) d7_0 rfl rfl ?_
  refine Wp.iloadN (pc' := 2) d7_1 rfl rfl ?_
  refine Wp.icmpY (pc' := 37) d7_2 (fun q => by rw [own_lt (by omega) (by omega)] at q; omega) (by decide) (by decide) ?_
  exact Wp.ret0 rfl d7_37 (by decide) (by decide) ⟨rfl, rfl⟩

set_option maxRecDepth 65536 in
set_option maxHeartbeats 40000000 in
theorem rm_crb (l : Launch) (Z : State) (a0 : Array Value) (hw : ∀ d ∈ tables_1, d.before a0 Z = true) (a : Addr) (k : ClassId) (vs : List Value) (f t : Nat) (h : Heap) (n0 : Nat) {Ls : List (Addr × (Cell → Prop))} (O : Hp h n0 ((a, ArC Z k .byte vs) :: Ls)) (hf : f ≤ t) (ht : t ≤ vs.length) (hv : vs.length ≤ 8) :
    Met l Z (⟨"java/util/Arrays", "copyOfRangeByte", "([BII)[B"⟩ : MethodName) jdk_65_method_133_code 5 (some (.array .byte)) (rmk 1 1 8 24) #[(.ref a), (.int (Int32.ofNat f)), (.int (Int32.ofNat t))] h n0 (fun v h' => (∃ b, v = some (.ref b)) ∧ Hp h' n0 ((a, ArC Z k .byte vs) :: Ls)) := by
  refine Met.of (L0 := #[.val (.ref a), .val (.int (Int32.ofNat f)), .val (.int (Int32.ofNat t)), .unset, .unset]) pn_a (fun m => rfl) ?_
  refine Wp.iloadN (pc' := 1) d6_0 rfl rfl ?_
  refine Wp.iloadN (pc' := 2) d6_1 rfl rfl ?_
  refine Wp.callS (yy := (⟨"java/util/Arrays", "checkLength", "(II)V"⟩ : MethodName)) (pc' := 5) (argsL := [(.int (Int32.ofNat f)), (.int (Int32.ofNat t))]) (S := []) (rm_chk l Z a0 hw f t hf (by omega) h n0) (hw _ (List.mem_of_getElem? (i := 46) rfl)) (hw _ (List.mem_of_getElem? (i := 47) rfl)) (hw _ (List.mem_of_getElem? (i := 27) rfl)) (hw _ (List.mem_of_getElem? (i := 48) rfl)) (by decide) (W := 0) rfl (lenOf pd_0 rfl) rfl rfl (Nat.le_refl 0) (by decide) (by decide) (by decide) (by decide) d6_2 rfl ?_
  rintro _ _ ⟨rfl, rfl⟩
  show Wp _ _ _ _ _ _ _ _ _ _ _ _ 5 #[.val (.ref a), .val (.int (Int32.ofNat f)), .val (.int (Int32.ofNat t)), .unset, .unset] []
  refine Wp.iloadN (pc' := 6) d6_5 rfl rfl ?_
  refine Wp.iloadN (pc' := 7) d6_6 rfl rfl ?_
  refine Wp.isub (z := (Int32.ofNat (t - f))) (pc' := 8) d6_7 (own_sub hf) rfl ?_
  refine Wp.istoreN (L' := #[.val (.ref a), .val (.int (Int32.ofNat f)), .val (.int (Int32.ofNat t)), .val (.int (Int32.ofNat (t - f))), .unset]) (pc' := 9) d6_8 rfl rfl ?_
  refine Wp.iloadN (pc' := 10) d6_9 rfl rfl ?_
  refine Wp.newarr (m := (t - f)) (cap := 8) (pc' := 12) O (hw _ (List.mem_of_getElem? (i := 1) rfl)) d6_10 (own_nn (by omega)) (own_n32 (by omega)) (by omega) (by decide) (by decide) (by decide) rfl ?_
  intro h2 b k1 O2
  have O2 : Hp h2 n0 ((b, ArC Z k1 .byte (List.replicate (t - f) (.int (0 : Int32)))) :: (a, ArC Z k .byte vs) :: Ls) := O2
  refine Wp.astore (L' := #[.val (.ref a), .val (.int (Int32.ofNat f)), .val (.int (Int32.ofNat t)), .val (.int (Int32.ofNat (t - f))), .val (.ref b)]) (pc' := 14) d6_12 rfl rfl rfl ?_
  refine Wp.aloadN (pc' := 15) d6_14 rfl rfl rfl ?_
  refine Wp.iloadN (pc' := 16) d6_15 rfl rfl ?_
  refine Wp.aload (pc' := 18) d6_16 rfl rfl rfl ?_
  refine Wp.iconst (z := (0 : Int32)) (pc' := 19) d6_18 (by decide) rfl ?_
  refine Wp.aloadN (pc' := 20) d6_19 rfl rfl rfl ?_
  refine Wp.arrlen (i := 1) (z := (Int32.ofNat vs.length)) (pc' := 21) O2 rfl d6_20 rfl rfl ?_
  refine Wp.iloadN (pc' := 22) d6_21 rfl rfl ?_
  refine Wp.isub (z := (Int32.ofNat (vs.length - f))) (pc' := 23) d6_22 (own_sub (by omega)) rfl ?_
  refine Wp.iloadN (pc' := 24) d6_23 rfl rfl ?_
  refine Wp.callS (yy := (⟨"java/lang/Math", "min", "(II)I"⟩ : MethodName)) (pc' := 27) (argsL := [(.int (Int32.ofNat (vs.length - f))), (.int (Int32.ofNat (t - f)))]) (S := [(.int (0 : Int32)), (.ref b), (.int (Int32.ofNat f)), (.ref a)]) (rm_min l Z a0 hw (vs.length - f) (t - f) (by omega) (by omega) h2 n0) (hw _ (List.mem_of_getElem? (i := 49) rfl)) (hw _ (List.mem_of_getElem? (i := 50) rfl)) (hw _ (List.mem_of_getElem? (i := 51) rfl)) (hw _ (List.mem_of_getElem? (i := 52) rfl)) (by decide) (W := 4) rfl (lenOf pd_1 rfl) rfl rfl (Nat.le_refl 4) (by decide) (by decide) (by decide) (by decide) d6_24 rfl ?_
  rintro _ _ ⟨rfl, rfl⟩
  show Wp _ _ _ _ _ _ _ _ _ _ _ _ 27 #[.val (.ref a), .val (.int (Int32.ofNat f)), .val (.int (Int32.ofNat t)), .val (.int (Int32.ofNat (t - f))), .val (.ref b)] [(.int (Int32.ofNat (min (vs.length - f) (t - f)))), (.int (0 : Int32)), (.ref b), (.int (Int32.ofNat f)), (.ref a)]
  refine Wp.arraycopy (i := 0) (sp := f) (dp := 0) (nn := (min (vs.length - f) (t - f))) (pc' := 30) O2 rfl rfl (hw _ (List.mem_of_getElem? (i := 53) rfl)) (hw _ (List.mem_of_getElem? (i := 56) rfl)) (hw _ (List.mem_of_getElem? (i := 54) rfl)) (hw _ (List.mem_of_getElem? (i := 55) rfl)) rfl rfl rfl (by omega) (by rw [List.length_replicate]; omega) (by omega) (by rw [List.length_replicate]; omega) (W := 0) rfl (Nat.le_refl 0) (by decide) (by decide) d6_27 rfl ?_
  intro h3 O3
  have O3 : Hp h3 n0 ((b, ArC Z k1 .byte ((List.replicate (t - f) (.int (0 : Int32))).take 0 ++ (vs.drop f).take (min (vs.length - f) (t - f)) ++ (List.replicate (t - f) (.int (0 : Int32))).drop (0 + (min (vs.length - f) (t - f))))) :: (a, ArC Z k .byte vs) :: Ls) := O3
  refine Wp.aload (pc' := 32) d6_30 rfl rfl rfl ?_
  exact Wp.retA (t := (.array .byte)) rfl rfl rfl rfl d6_32 (by decide) (by decide) ⟨⟨b, rfl⟩, O3.drop⟩

set_option maxRecDepth 65536 in
set_option maxHeartbeats 40000000 in
theorem rm_cor (l : Launch) (Z : State) (a0 : Array Value) (hw : ∀ d ∈ tables_1, d.before a0 Z = true) (a : Addr) (k : ClassId) (vs : List Value) (f t : Nat) (hk : Z.vm.findClass "[B" = some k) (h : Heap) (n0 : Nat) {Ls : List (Addr × (Cell → Prop))} (O : Hp h n0 ((a, ArC Z k .byte vs) :: Ls)) (hf : f ≤ t) (ht : t ≤ vs.length) (hv : vs.length ≤ 8) :
    Met l Z (⟨"java/util/Arrays", "copyOfRange", "([BII)[B"⟩ : MethodName) jdk_65_method_132_code 3 (some (.array .byte)) (rmk 2 1 8 40) #[(.ref a), (.int (Int32.ofNat f)), (.int (Int32.ofNat t))] h n0 (fun v h' => (∃ b, v = some (.ref b)) ∧ Hp h' n0 ((a, ArC Z k .byte vs) :: Ls)) := by
  refine Met.of (L0 := #[.val (.ref a), .val (.int (Int32.ofNat f)), .val (.int (Int32.ofNat t))]) pn_a (fun m => rfl) ?_
  refine Wp.iloadN (pc' := 1) d4_0 rfl rfl ?_
  by_cases c1 : (Int32.ofNat f) = 0
  · refine Wp.ifN (pc' := 4) d4_1 (not_not_intro c1) rfl ?_
    refine Wp.iloadN (pc' := 5) d4_4 rfl rfl ?_
    refine Wp.aloadN (pc' := 6) d4_5 rfl rfl rfl ?_
    refine Wp.arrlen (i := 0) (z := (Int32.ofNat vs.length)) (pc' := 7) O rfl d4_6 rfl rfl ?_
    by_cases c7 : (Int32.ofNat t) = (Int32.ofNat vs.length)
    · refine Wp.icmpY (pc' := 17) d4_7 c7 (by decide) (by decide) ?_
      refine Wp.aloadN (pc' := 18) d4_17 rfl rfl rfl ?_
      refine Wp.clone (i := 0) (C := "[B") (cap := 8) (pc' := 21) O rfl hk (hw _ (List.mem_of_getElem? (i := 29) rfl)) (hw _ (List.mem_of_getElem? (i := 30) rfl)) (hw _ (List.mem_of_getElem? (i := 34) rfl)) (hw _ (List.mem_of_getElem? (i := 32) rfl)) (hw _ (List.mem_of_getElem? (i := 33) rfl)) (hw _ (List.mem_of_getElem? (i := 35) rfl)) (W := 0) rfl (Nat.le_refl 0) (by decide) (by decide) hv (by decide) (by decide) d4_18 rfl ?_
      intro h1 b2 O1
      have O1 : Hp h1 n0 ((b2, ArC Z k .byte vs) :: (a, ArC Z k .byte vs) :: Ls) := O1
      refine Wp.checkcast (C := "[B") (pc' := 24) (O1.insA (i := 0) rfl hk) (hw _ (List.mem_of_getElem? (i := 36) rfl)) d4_21 rfl ?_
      exact Wp.retA (t := (.array .byte)) rfl rfl rfl rfl d4_24 (by decide) (by decide) ⟨⟨b2, rfl⟩, O1.drop⟩
    · refine Wp.icmpN (pc' := 10) d4_7 c7 rfl ?_
      refine Wp.aloadN (pc' := 11) d4_10 rfl rfl rfl ?_
      refine Wp.iloadN (pc' := 12) d4_11 rfl rfl ?_
      refine Wp.iloadN (pc' := 13) d4_12 rfl rfl ?_
      refine Wp.callS (yy := (⟨"java/util/Arrays", "copyOfRangeByte", "([BII)[B"⟩ : MethodName)) (pc' := 16) (argsL := [(.ref a), (.int (Int32.ofNat f)), (.int (Int32.ofNat t))]) (S := []) (rm_crb l Z a0 hw a k vs f t h n0 O hf ht hv) (hw _ (List.mem_of_getElem? (i := 43) rfl)) (hw _ (List.mem_of_getElem? (i := 44) rfl)) (hw _ (List.mem_of_getElem? (i := 27) rfl)) (hw _ (List.mem_of_getElem? (i := 45) rfl)) (by decide) (W := 0) rfl (lenOf pd_2 rfl) rfl rfl (Nat.le_refl 0) (by decide) (by decide) (by decide) (by decide) d4_13 rfl ?_
      rintro _ h2 ⟨⟨b1, rfl⟩, O2⟩
      have O2 : Hp h2 n0 ((a, ArC Z k .byte vs) :: Ls) := O2
      show Wp _ _ _ _ _ _ _ _ _ _ _ _ 16 #[.val (.ref a), .val (.int (Int32.ofNat f)), .val (.int (Int32.ofNat t))] [(.ref b1)]
      exact Wp.retA (t := (.array .byte)) rfl rfl rfl rfl d4_16 (by decide) (by decide) ⟨⟨b1, rfl⟩, O2⟩
  · refine Wp.ifY (pc' := 10) d4_1 c1 (by decide) (by decide) ?_
    refine Wp.aloadN (pc' := 11) d4_10 rfl rfl rfl ?_
    refine Wp.iloadN (pc' := 12) d4_11 rfl rfl ?_
    refine Wp.iloadN (pc' := 13) d4_12 rfl rfl ?_
    refine Wp.callS (yy := (⟨"java/util/Arrays", "copyOfRangeByte", "([BII)[B"⟩ : MethodName)) (pc' := 16) (argsL := [(.ref a), (.int (Int32.ofNat f)), (.int (Int32.ofNat t))]) (S := []) (rm_crb l Z a0 hw a k vs f t h n0 O hf ht hv) (hw _ (List.mem_of_getElem? (i := 43) rfl)) (hw _ (List.mem_of_getElem? (i := 44) rfl)) (hw _ (List.mem_of_getElem? (i := 27) rfl)) (hw _ (List.mem_of_getElem? (i := 45) rfl)) (by decide) (W := 0) rfl (lenOf pd_2 rfl) rfl rfl (Nat.le_refl 0) (by decide) (by decide) (by decide) (by decide) d4_13 rfl ?_
    rintro _ h3 ⟨⟨b1, rfl⟩, O3⟩
    have O3 : Hp h3 n0 ((a, ArC Z k .byte vs) :: Ls) := O3
    show Wp _ _ _ _ _ _ _ _ _ _ _ _ 16 #[.val (.ref a), .val (.int (Int32.ofNat f)), .val (.int (Int32.ofNat t))] [(.ref b1)]
    exact Wp.retA (t := (.array .byte)) rfl rfl rfl rfl d4_16 (by decide) (by decide) ⟨⟨b1, rfl⟩, O3⟩

set_option maxRecDepth 65536 in
set_option maxHeartbeats 40000000 in
theorem rm_ini (l : Launch) (Z : State) (a0 : Array Value) (hw : ∀ d ∈ tables_1, d.before a0 Z = true) (r a : Addr) (h : Heap) (n0 : Nat) {Ls : List (Addr × (Cell → Prop))} (O : Hp h n0 ((r, ObC Z a0 "com/example/shardwell/shardwell/PayloadReader" [("payload", "[B", .null), ("position", "I", (.int (0 : Int32)))]) :: Ls)) :
    Met l Z (⟨"com/example/shardwell/shardwell/PayloadReader", "<init>", "([B)V"⟩ : MethodName) prog_102_method_1_code 2 none (rmk 1 0 0 12) #[(.ref r), (.ref a)] h n0 (fun v h' => v = none ∧ Hp h' n0 ((r, ObC Z a0 "com/example/shardwell/shardwell/PayloadReader" [("payload", "[B", (.ref a)), ("position", "I", (.int (0 : Int32)))]) :: Ls)) := by
  refine Met.of (L0 := #[.val (.ref r), .val (.ref a)]) pn_p (fun m => rfl) ?_
  refine Wp.aloadN (pc' := 1) d0_0 rfl rfl rfl ?_
  refine Wp.initO (pc' := 4) (hw _ (List.mem_of_getElem? (i := 8) rfl)) (hw _ (List.mem_of_getElem? (i := 9) rfl)) (hw _ (List.mem_of_getElem? (i := 10) rfl)) (W := 0) rfl (Nat.le_refl 0) (by decide) (by decide) d0_1 rfl ?_
  refine Wp.aloadN (pc' := 5) d0_4 rfl rfl rfl ?_
  refine Wp.aloadN (pc' := 6) d0_5 rfl rfl rfl ?_
  refine Wp.putfield (LA := []) (F1 := []) (pc' := 9) O (hw _ (List.mem_of_getElem? (i := 11) rfl)) (Or.inr ⟨(hw _ (List.mem_of_getElem? (i := 12) rfl)), rfl, rfl⟩) (hw _ (List.mem_of_getElem? (i := 3) rfl)) (ty := (.array .byte)) (by decide) rfl rfl (by simp) d0_6 rfl ?_
  intro h1 O1
  have O1 : Hp h1 n0 ((r, ObC Z a0 "com/example/shardwell/shardwell/PayloadReader" [("payload", "[B", (.ref a)), ("position", "I", (.int (0 : Int32)))]) :: Ls) := O1
  exact Wp.ret0 rfl d0_9 (by decide) (by decide) ⟨rfl, O1⟩

set_option maxRecDepth 65536 in
set_option maxHeartbeats 40000000 in
theorem rm_end (l : Launch) (Z : State) (a0 : Array Value) (hw : ∀ d ∈ tables_1, d.before a0 Z = true) (r a : Addr) (k : ClassId) (vs : List Value) (p : Nat) (hp : p ≤ vs.length) (hv : vs.length ≤ 8) (h : Heap) (n0 : Nat) {Ls : List (Addr × (Cell → Prop))} (O : Hp h n0 ((r, ObC Z a0 "com/example/shardwell/shardwell/PayloadReader" [("payload", "[B", (.ref a)), ("position", "I", (.int (Int32.ofNat p)))]) :: (a, ArC Z k .byte vs) :: Ls)) :
    Met l Z (⟨"com/example/shardwell/shardwell/PayloadReader", "atEnd", "()Z"⟩ : MethodName) prog_102_method_2_code 1 (some .boolean) (rmk 0 0 0 0) #[(.ref r)] h n0 (fun v h' => v = some (.int (own_e p vs.length)) ∧ h = h') := by
  refine Met.of (L0 := #[.val (.ref r)]) pn_p (fun m => rfl) ?_
  refine Wp.aloadN (pc' := 1) d2_0 rfl rfl rfl ?_
  refine Wp.getfield (i := 0) (j := 1) (pc' := 4) O rfl rfl (hw _ (List.mem_of_getElem? (i := 18) rfl)) d2_1 rfl ?_
  refine Wp.aloadN (pc' := 5) d2_4 rfl rfl rfl ?_
  refine Wp.getfield (i := 0) (j := 0) (pc' := 8) O rfl rfl (hw _ (List.mem_of_getElem? (i := 11) rfl)) d2_5 rfl ?_
  refine Wp.arrlen (i := 1) (z := (Int32.ofNat vs.length)) (pc' := 9) O rfl d2_8 rfl rfl ?_
  by_cases c9 : (Int32.ofNat p) = (Int32.ofNat vs.length)
  · refine Wp.icmpN (pc' := 12) d2_9 (not_not_intro c9) rfl ?_
    refine Wp.iconst (z := (1 : Int32)) (pc' := 13) d2_12 (by decide) rfl ?_
    refine Wp.goto (pc' := 17) d2_13 (by decide) (by decide) ?_
    exact Wp.retS (t := .boolean) rfl (Or.inl rfl) rfl d2_17 (by decide) (by decide) ⟨by rw [own_inj (by omega) (by omega)] at c9; simp [own_e, c9], rfl⟩
  · refine Wp.icmpY (pc' := 16) d2_9 c9 (by decide) (by decide) ?_
    refine Wp.iconst (z := (0 : Int32)) (pc' := 17) d2_16 (by decide) rfl ?_
    exact Wp.retS (t := .boolean) rfl (Or.inl rfl) rfl d2_17 (by decide) (by decide) ⟨by rw [own_inj (by omega) (by omega)] at c9; simp [own_e, c9], rfl⟩

set_option maxRecDepth 65536 in
set_option maxHeartbeats 40000000 in
theorem rm_byt (l : Launch) (Z : State) (a0 : Array Value) (hw : ∀ d ∈ tables_1, d.before a0 Z = true) (r a : Addr) (k : ClassId) (vs : List Value) (p : Nat) (hp : p ≤ vs.length) (hv : vs.length ≤ 8) (kk : Nat) (hkk : p + kk ≤ vs.length) (hk : Z.vm.findClass "[B" = some k) (h : Heap) (n0 : Nat) {Ls : List (Addr × (Cell → Prop))} (O : Hp h n0 ((r, ObC Z a0 "com/example/shardwell/shardwell/PayloadReader" [("payload", "[B", (.ref a)), ("position", "I", (.int (Int32.ofNat p)))]) :: (a, ArC Z k .byte vs) :: Ls)) :
    Met l Z (⟨"com/example/shardwell/shardwell/PayloadReader", "bytes", "(J)[B"⟩ : MethodName) prog_102_method_8_code 4 (some (.array .byte)) (rmk 3 1 8 54) #[(.ref r), (.long ((Int32.ofNat kk).toInt64))] h n0 (fun v h' => (∃ b, v = some (.ref b)) ∧ Hp h' n0 ((r, ObC Z a0 "com/example/shardwell/shardwell/PayloadReader" [("payload", "[B", (.ref a)), ("position", "I", (.int (Int32.ofNat (p + kk))))]) :: (a, ArC Z k .byte vs) :: Ls)) := by
  refine Met.of (L0 := #[.val (.ref r), .val (.long ((Int32.ofNat kk).toInt64)), .second, .unset]) pn_p (fun m => rfl) ?_
  refine Wp.lloadN (pc' := 1) d3_0 rfl rfl ?_
  refine Wp.lconst (z := (0 : Int64)) (pc' := 2) d3_1 (by decide) rfl ?_
  refine Wp.lcmpN (pc' := 6) (p1 := 3) d3_2 rfl d3_3 (own_ge0 (by omega)) rfl ?_
  refine Wp.lloadN (pc' := 7) d3_6 rfl rfl ?_
  refine Wp.aloadN (pc' := 8) d3_7 rfl rfl rfl ?_
  refine Wp.getfield (i := 0) (j := 0) (pc' := 11) O rfl rfl (hw _ (List.mem_of_getElem? (i := 11) rfl)) d3_8 rfl ?_
  refine Wp.arrlen (i := 1) (z := (Int32.ofNat vs.length)) (pc' := 12) O rfl d3_11 rfl rfl ?_
  refine Wp.aloadN (pc' := 13) d3_12 rfl rfl rfl ?_
  refine Wp.getfield (i := 0) (j := 1) (pc' := 16) O rfl rfl (hw _ (List.mem_of_getElem? (i := 18) rfl)) d3_13 rfl ?_
  refine Wp.isub (z := (Int32.ofNat (vs.length - p))) (pc' := 17) d3_16 (own_sub hp) rfl ?_
  refine Wp.i2l (z := (((Int32.ofNat (vs.length - p))).toInt64)) (pc' := 18) d3_17 rfl rfl ?_
  refine Wp.lcmpY (pc' := 30) (p1 := 19) d3_18 rfl d3_19 (fun q => by rw [own_lt64 (by omega) (by omega)] at q; omega) (by decide) (by decide) ?_
  refine Wp.aloadN (pc' := 31) d3_30 rfl rfl rfl ?_
  refine Wp.getfield (i := 0) (j := 0) (pc' := 34) O rfl rfl (hw _ (List.mem_of_getElem? (i := 11) rfl)) d3_31 rfl ?_
  refine Wp.aloadN (pc' := 35) d3_34 rfl rfl rfl ?_
  refine Wp.getfield (i := 0) (j := 1) (pc' := 38) O rfl rfl (hw _ (List.mem_of_getElem? (i := 18) rfl)) d3_35 rfl ?_
  refine Wp.aloadN (pc' := 39) d3_38 rfl rfl rfl ?_
  refine Wp.getfield (i := 0) (j := 1) (pc' := 42) O rfl rfl (hw _ (List.mem_of_getElem? (i := 18) rfl)) d3_39 rfl ?_
  refine Wp.lloadN (pc' := 43) d3_42 rfl rfl ?_
  refine Wp.l2i (z := (Int32.ofNat kk)) (pc' := 44) d3_43 (own_back kk) rfl ?_
  refine Wp.iadd (z := (Int32.ofNat (p + kk))) (pc' := 45) d3_44 (own_add p kk) rfl ?_
  have O1 : Hp h n0 ((a, ArC Z k .byte vs) :: (r, ObC Z a0 "com/example/shardwell/shardwell/PayloadReader" [("payload", "[B", (.ref a)), ("position", "I", (.int (Int32.ofNat p)))]) :: Ls) := Hp.front (LA := [_]) O
  refine Wp.callS (yy := (⟨"java/util/Arrays", "copyOfRange", "([BII)[B"⟩ : MethodName)) (pc' := 48) (argsL := [(.ref a), (.int (Int32.ofNat p)), (.int (Int32.ofNat (p + kk)))]) (S := []) (rm_cor l Z a0 hw a k vs p (p + kk) hk h n0 O1 (by omega) (by omega) hv) (hw _ (List.mem_of_getElem? (i := 25) rfl)) (hw _ (List.mem_of_getElem? (i := 26) rfl)) (hw _ (List.mem_of_getElem? (i := 27) rfl)) (hw _ (List.mem_of_getElem? (i := 28) rfl)) (by decide) (W := 0) rfl (lenOf pd_2 rfl) rfl rfl (Nat.le_refl 0) (by decide) (by decide) (by decide) (by decide) d3_45 rfl ?_
  rintro _ h2 ⟨⟨b1, rfl⟩, O2⟩
  have O2 : Hp h2 n0 ((a, ArC Z k .byte vs) :: (r, ObC Z a0 "com/example/shardwell/shardwell/PayloadReader" [("payload", "[B", (.ref a)), ("position", "I", (.int (Int32.ofNat p)))]) :: Ls) := O2
  show Wp _ _ _ _ _ _ _ _ _ _ _ _ 48 #[.val (.ref r), .val (.long ((Int32.ofNat kk).toInt64)), .second, .unset] [(.ref b1)]
  refine Wp.astoreN (L' := #[.val (.ref r), .val (.long ((Int32.ofNat kk).toInt64)), .second, .val (.ref b1)]) (pc' := 49) d3_48 rfl rfl rfl ?_
  refine Wp.aloadN (pc' := 50) d3_49 rfl rfl rfl ?_
  refine Wp.dup (pc' := 51) d3_50 rfl rfl ?_
  refine Wp.getfield (i := 1) (j := 1) (pc' := 54) O2 rfl rfl (hw _ (List.mem_of_getElem? (i := 18) rfl)) d3_51 rfl ?_
  refine Wp.lloadN (pc' := 55) d3_54 rfl rfl ?_
  refine Wp.l2i (z := (Int32.ofNat kk)) (pc' := 56) d3_55 (own_back kk) rfl ?_
  refine Wp.iadd (z := (Int32.ofNat (p + kk))) (pc' := 57) d3_56 (own_add p kk) rfl ?_
  have O3 : Hp h2 n0 ((r, ObC Z a0 "com/example/shardwell/shardwell/PayloadReader" [("payload", "[B", (.ref a)), ("position", "I", (.int (Int32.ofNat p)))]) :: (a, ArC Z k .byte vs) :: Ls) := Hp.front (LA := [_]) O2
  refine Wp.putfield (LA := []) (F1 := [_]) (pc' := 60) O3 (hw _ (List.mem_of_getElem? (i := 18) rfl)) (Or.inl (hw _ (List.mem_of_getElem? (i := 19) rfl))) (hw _ (List.mem_of_getElem? (i := 3) rfl)) (ty := .int) (by decide) rfl rfl (by simp) d3_57 rfl ?_
  intro h4 O4
  have O4 : Hp h4 n0 ((r, ObC Z a0 "com/example/shardwell/shardwell/PayloadReader" [("payload", "[B", (.ref a)), ("position", "I", (.int (Int32.ofNat (p + kk))))]) :: (a, ArC Z k .byte vs) :: Ls) := O4
  refine Wp.aloadN (pc' := 61) d3_60 rfl rfl rfl ?_
  exact Wp.retA (t := (.array .byte)) rfl rfl rfl rfl d3_61 (by decide) (by decide) ⟨⟨b1, rfl⟩, O4⟩

set_option maxRecDepth 65536 in
set_option maxHeartbeats 40000000 in
theorem rm_rst (l : Launch) (Z : State) (a0 : Array Value) (hw : ∀ d ∈ tables_1, d.before a0 Z = true) (r a : Addr) (k : ClassId) (vs : List Value) (p : Nat) (hp : p ≤ vs.length) (hv : vs.length ≤ 8) (hk : Z.vm.findClass "[B" = some k) (h : Heap) (n0 : Nat) {Ls : List (Addr × (Cell → Prop))} (O : Hp h n0 ((r, ObC Z a0 "com/example/shardwell/shardwell/PayloadReader" [("payload", "[B", (.ref a)), ("position", "I", (.int (Int32.ofNat p)))]) :: (a, ArC Z k .byte vs) :: Ls)) :
    Met l Z (⟨"com/example/shardwell/shardwell/PayloadReader", "rest", "()[B"⟩ : MethodName) prog_102_method_10_code 2 (some (.array .byte)) (rmk 3 1 8 54) #[(.ref r)] h n0 (fun v h' => (∃ b, v = some (.ref b)) ∧ Hp h' n0 ((r, ObC Z a0 "com/example/shardwell/shardwell/PayloadReader" [("payload", "[B", (.ref a)), ("position", "I", (.int (Int32.ofNat vs.length)))]) :: (a, ArC Z k .byte vs) :: Ls)) := by
  refine Met.of (L0 := #[.val (.ref r), .unset]) pn_p (fun m => rfl) ?_
  refine Wp.aloadN (pc' := 1) d5_0 rfl rfl rfl ?_
  refine Wp.getfield (i := 0) (j := 0) (pc' := 4) O rfl rfl (hw _ (List.mem_of_getElem? (i := 11) rfl)) d5_1 rfl ?_
  refine Wp.aloadN (pc' := 5) d5_4 rfl rfl rfl ?_
  refine Wp.getfield (i := 0) (j := 1) (pc' := 8) O rfl rfl (hw _ (List.mem_of_getElem? (i := 18) rfl)) d5_5 rfl ?_
  refine Wp.aloadN (pc' := 9) d5_8 rfl rfl rfl ?_
  refine Wp.getfield (i := 0) (j := 0) (pc' := 12) O rfl rfl (hw _ (List.mem_of_getElem? (i := 11) rfl)) d5_9 rfl ?_
  refine Wp.arrlen (i := 1) (z := (Int32.ofNat vs.length)) (pc' := 13) O rfl d5_12 rfl rfl ?_
  have O1 : Hp h n0 ((a, ArC Z k .byte vs) :: (r, ObC Z a0 "com/example/shardwell/shardwell/PayloadReader" [("payload", "[B", (.ref a)), ("position", "I", (.int (Int32.ofNat p)))]) :: Ls) := Hp.front (LA := [_]) O
  refine Wp.callS (yy := (⟨"java/util/Arrays", "copyOfRange", "([BII)[B"⟩ : MethodName)) (pc' := 16) (argsL := [(.ref a), (.int (Int32.ofNat p)), (.int (Int32.ofNat vs.length))]) (S := []) (rm_cor l Z a0 hw a k vs p vs.length hk h n0 O1 (by omega) (by omega) hv) (hw _ (List.mem_of_getElem? (i := 25) rfl)) (hw _ (List.mem_of_getElem? (i := 26) rfl)) (hw _ (List.mem_of_getElem? (i := 27) rfl)) (hw _ (List.mem_of_getElem? (i := 28) rfl)) (by decide) (W := 0) rfl (lenOf pd_2 rfl) rfl rfl (Nat.le_refl 0) (by decide) (by decide) (by decide) (by decide) d5_13 rfl ?_
  rintro _ h2 ⟨⟨b1, rfl⟩, O2⟩
  have O2 : Hp h2 n0 ((a, ArC Z k .byte vs) :: (r, ObC Z a0 "com/example/shardwell/shardwell/PayloadReader" [("payload", "[B", (.ref a)), ("position", "I", (.int (Int32.ofNat p)))]) :: Ls) := O2
  show Wp _ _ _ _ _ _ _ _ _ _ _ _ 16 #[.val (.ref r), .unset] [(.ref b1)]
  refine Wp.astoreN (L' := #[.val (.ref r), .val (.ref b1)]) (pc' := 17) d5_16 rfl rfl rfl ?_
  refine Wp.aloadN (pc' := 18) d5_17 rfl rfl rfl ?_
  refine Wp.aloadN (pc' := 19) d5_18 rfl rfl rfl ?_
  refine Wp.getfield (i := 1) (j := 0) (pc' := 22) O2 rfl rfl (hw _ (List.mem_of_getElem? (i := 11) rfl)) d5_19 rfl ?_
  refine Wp.arrlen (i := 0) (z := (Int32.ofNat vs.length)) (pc' := 23) O2 rfl d5_22 rfl rfl ?_
  have O3 : Hp h2 n0 ((r, ObC Z a0 "com/example/shardwell/shardwell/PayloadReader" [("payload", "[B", (.ref a)), ("position", "I", (.int (Int32.ofNat p)))]) :: (a, ArC Z k .byte vs) :: Ls) := Hp.front (LA := [_]) O2
  refine Wp.putfield (LA := []) (F1 := [_]) (pc' := 26) O3 (hw _ (List.mem_of_getElem? (i := 18) rfl)) (Or.inl (hw _ (List.mem_of_getElem? (i := 19) rfl))) (hw _ (List.mem_of_getElem? (i := 3) rfl)) (ty := .int) (by decide) rfl rfl (by simp) d5_23 rfl ?_
  intro h4 O4
  have O4 : Hp h4 n0 ((r, ObC Z a0 "com/example/shardwell/shardwell/PayloadReader" [("payload", "[B", (.ref a)), ("position", "I", (.int (Int32.ofNat vs.length)))]) :: (a, ArC Z k .byte vs) :: Ls) := O4
  refine Wp.aloadN (pc' := 27) d5_26 rfl rfl rfl ?_
  exact Wp.retA (t := (.array .byte)) rfl rfl rfl rfl d5_27 (by decide) (by decide) ⟨⟨b1, rfl⟩, O4⟩

set_option maxRecDepth 65536 in
set_option maxHeartbeats 40000000 in
theorem rm_req (l : Launch) (Z : State) (a0 : Array Value) (hw : ∀ d ∈ tables_1, d.before a0 Z = true) (r a : Addr) (k : ClassId) (vs : List Value) (p : Nat) (hp : p < vs.length) (hv : vs.length ≤ 8) (h : Heap) (n0 : Nat) {Ls : List (Addr × (Cell → Prop))} (O : Hp h n0 ((r, ObC Z a0 "com/example/shardwell/shardwell/PayloadReader" [("payload", "[B", (.ref a)), ("position", "I", (.int (Int32.ofNat p)))]) :: (a, ArC Z k .byte vs) :: Ls)) :
    Met l Z (⟨"com/example/shardwell/shardwell/PayloadReader", "require", "(I)V"⟩ : MethodName) prog_102_method_11_code 2 none (rmk 0 0 0 0) #[(.ref r), (.int (1 : Int32))] h n0 (fun v h' => v = none ∧ h = h') := by
  refine Met.of (L0 := #[.val (.ref r), .val (.int (1 : Int32))]) pn_p (fun m => rfl) ?_
  refine Wp.aloadN (pc' := 1) d10_0 rfl rfl rfl ?_
  refine Wp.getfield (i := 0) (j := 0) (pc' := 4) O rfl rfl (hw _ (List.mem_of_getElem? (i := 11) rfl)) d10_1 rfl ?_
  refine Wp.arrlen (i := 1) (z := (Int32.ofNat vs.length)) (pc' := 5) O rfl d10_4 rfl rfl ?_
  refine Wp.aloadN (pc' := 6) d10_5 rfl rfl rfl ?_
  refine Wp.getfield (i := 0) (j := 1) (pc' := 9) O rfl rfl (hw _ (List.mem_of_getElem? (i := 18) rfl)) d10_6 rfl ?_
  refine Wp.isub (z := (Int32.ofNat (vs.length - p))) (pc' := 10) d10_9 (own_sub (by omega)) rfl ?_
  refine Wp.iloadN (pc' := 11) d10_10 rfl rfl ?_
  refine Wp.icmpY (pc' := 22) d10_11 (fun q => by have q2 := (own_lt (i := vs.length - p) (n := 1) (by omega) (by omega)).mp q; omega) (by decide) (by decide) ?_
  exact Wp.ret0 rfl d10_22 (by decide) (by decide) ⟨rfl, rfl⟩

set_option maxRecDepth 65536 in
set_option maxHeartbeats 40000000 in
theorem rm_int (l : Launch) (Z : State) (a0 : Array Value) (hw : ∀ d ∈ tables_1, d.before a0 Z = true) (r a : Addr) (k : ClassId) (vs : List Value) (p : Nat) (hp : p < vs.length) (hv : vs.length ≤ 8) (xb : Int32) (hx : vs[p]? = some (.int xb)) (h : Heap) (n0 : Nat) {Ls : List (Addr × (Cell → Prop))} (O : Hp h n0 ((r, ObC Z a0 "com/example/shardwell/shardwell/PayloadReader" [("payload", "[B", (.ref a)), ("position", "I", (.int (Int32.ofNat p)))]) :: (a, ArC Z k .byte vs) :: Ls)) :
    Met l Z (⟨"com/example/shardwell/shardwell/PayloadReader", "int1", "()I"⟩ : MethodName) prog_102_method_3_code 1 (some .int) (rmk 1 0 0 15) #[(.ref r)] h n0 (fun v h' => (∃ z, v = some (.int z)) ∧ Hp h' n0 ((r, ObC Z a0 "com/example/shardwell/shardwell/PayloadReader" [("payload", "[B", (.ref a)), ("position", "I", (.int (Int32.ofNat (p + 1))))]) :: (a, ArC Z k .byte vs) :: Ls)) := by
  refine Met.of (L0 := #[.val (.ref r)]) pn_p (fun m => rfl) ?_
  refine Wp.aloadN (pc' := 1) d9_0 rfl rfl rfl ?_
  refine Wp.iconst (z := (1 : Int32)) (pc' := 2) d9_1 (by decide) rfl ?_
  refine Wp.callP (yy := (⟨"com/example/shardwell/shardwell/PayloadReader", "require", "(I)V"⟩ : MethodName)) (y0 := (⟨"com/example/shardwell/shardwell/PayloadReader", "atEnd", "()Z"⟩ : MethodName)) (pc' := 5) (argsL := [(.int (1 : Int32))]) (a := r) (S := []) (rm_req l Z a0 hw r a k vs p hp hv h n0 O) (O.exa (i := 0) rfl) (hw _ (List.mem_of_getElem? (i := 62) rfl)) (hw _ (List.mem_of_getElem? (i := 63) rfl)) (hw _ (List.mem_of_getElem? (i := 64) rfl)) (hw _ (List.mem_of_getElem? (i := 4) rfl)) (hw _ (List.mem_of_getElem? (i := 65) rfl)) (nfS (hw _ (List.mem_of_getElem? (i := 16) rfl))) (hw _ (List.mem_of_getElem? (i := 15) rfl)) rfl (by decide) (W := 0) rfl (lenOf pd_3 rfl) rfl rfl (Nat.le_refl 0) (by decide) (by decide) (by decide) (by decide) d9_2 rfl ?_
  rintro _ _ ⟨rfl, rfl⟩
  show Wp _ _ _ _ _ _ _ _ _ _ _ _ 5 #[.val (.ref r)] []
  refine Wp.aloadN (pc' := 6) d9_5 rfl rfl rfl ?_
  refine Wp.getfield (i := 0) (j := 0) (pc' := 9) O rfl rfl (hw _ (List.mem_of_getElem? (i := 11) rfl)) d9_6 rfl ?_
  refine Wp.aloadN (pc' := 10) d9_9 rfl rfl rfl ?_
  refine Wp.dup (pc' := 11) d9_10 rfl rfl ?_
  refine Wp.getfield (i := 0) (j := 1) (pc' := 14) O rfl rfl (hw _ (List.mem_of_getElem? (i := 18) rfl)) d9_11 rfl ?_
  refine Wp.dupX1 (pc' := 15) d9_14 rfl rfl rfl ?_
  refine Wp.iconst (z := (1 : Int32)) (pc' := 16) d9_15 (by decide) rfl ?_
  refine Wp.iadd (z := (Int32.ofNat (p + 1))) (pc' := 17) d9_16 (own_one p) rfl ?_
  refine Wp.putfield (LA := []) (F1 := [_]) (pc' := 20) O (hw _ (List.mem_of_getElem? (i := 18) rfl)) (Or.inl (hw _ (List.mem_of_getElem? (i := 19) rfl))) (hw _ (List.mem_of_getElem? (i := 3) rfl)) (ty := .int) (by decide) rfl rfl (by simp) d9_17 rfl ?_
  intro h1 O1
  have O1 : Hp h1 n0 ((r, ObC Z a0 "com/example/shardwell/shardwell/PayloadReader" [("payload", "[B", (.ref a)), ("position", "I", (.int (Int32.ofNat (p + 1))))]) :: (a, ArC Z k .byte vs) :: Ls) := O1
  refine Wp.baload (i := 1) (jn := p) (v := (.int xb)) (pc' := 21) O1 rfl d9_20 (own_nn (by omega)) (own_n32 (by omega)) hx rfl ?_
  refine Wp.sipush (z := (255 : Int32)) (pc' := 24) d9_21 (by decide) rfl ?_
  refine Wp.iand (z := (xb &&& (255 : Int32))) (pc' := 25) d9_24 rfl rfl ?_
  exact Wp.retI rfl d9_25 (by decide) (by decide) ⟨⟨_, rfl⟩, O1⟩

set_option maxRecDepth 65536 in
set_option maxHeartbeats 40000000 in
theorem rm0 (l : Launch) (Z : State) (a0 : Array Value) (hw : ∀ d ∈ tables_1, d.before a0 Z = true) (p0 p1 : Int32) (h : Heap) (n0 : Nat) (Z0 : n0 ≤ h.size) :
    Met l Z x code maxLocals ret room_1 #[(.int p0), (.int p1)] h n0 (fun v _ => v = some (.int 1)) := by
  refine Met.of (L0 := #[.val (.int p0), .val (.int p1), .unset, .unset, .unset, .unset, .unset]) pn_l (fun m => rfl) ?_
  have O : Hp h n0 [] := Hp.nil Z0
  refine Wp.iloadN (pc' := 1) at_0 rfl rfl ?_
  refine Wp.bipush (z := (7 : Int32)) (pc' := 3) at_1 (by decide) rfl ?_
  obtain ⟨n, hn, -, en⟩ := own_nat (b := 7) (own_seven p0).1 (own_seven p0).2
  refine Wp.iand (z := (Int32.ofNat n)) (pc' := 4) at_3 en rfl ?_
  refine Wp.istoreN (L' := #[.val (.int p0), .val (.int p1), .val (.int (Int32.ofNat n)), .unset, .unset, .unset, .unset]) (pc' := 5) at_4 rfl rfl ?_
  refine Wp.iloadN (pc' := 6) at_5 rfl rfl ?_
  refine Wp.ldcInt (v := (2147483647 : Int32)) (pc' := 8) (hw _ (List.mem_of_getElem? (i := 0) rfl)) at_6 rfl ?_
  refine Wp.iand (z := (p1 &&& (2147483647 : Int32))) (pc' := 9) at_8 rfl rfl ?_
  refine Wp.iloadN (pc' := 10) at_9 rfl rfl ?_
  refine Wp.iconst (z := (1 : Int32)) (pc' := 11) at_10 (by decide) rfl ?_
  refine Wp.iadd (z := (Int32.ofNat (n + 1))) (pc' := 12) at_11 (own_one n) rfl ?_
  obtain ⟨k0, hk0, -, ek⟩ := own_nat (b := n + 1 - 1) (own_mod p1 (n + 1) (by omega) (by omega)).1 (own_mod p1 (n + 1) (by omega) (by omega)).2
  have hkn : k0 ≤ n := by omega
  refine Wp.irem (z := (Int32.ofNat k0)) (pc' := 13) at_12 (fun q => by rw [show (0 : Int32) = Int32.ofNat 0 from rfl, own_inj (by omega) (by omega)] at q; omega) ek rfl ?_
  refine Wp.istoreN (L' := #[.val (.int p0), .val (.int p1), .val (.int (Int32.ofNat n)), .val (.int (Int32.ofNat k0)), .unset, .unset, .unset]) (pc' := 14) at_13 rfl rfl ?_
  refine Wp.iloadN (pc' := 15) at_14 rfl rfl ?_
  refine Wp.newarrE (m := n) (cap := 8) (ad := "[B") (pc' := 17) O (hw _ (List.mem_of_getElem? (i := 1) rfl)) at_15 rfl (own_nn (by omega)) (own_n32 (by omega)) (by omega) (by decide) (by decide) (by decide) rfl ?_
  intro h2 a k1 hka O2
  have O2 : Hp h2 n0 [(a, ArC Z k1 .byte (List.replicate n (.int (0 : Int32))))] := O2
  obtain ⟨vs, evs⟩ : ∃ z : List Value, z = (List.replicate n (.int (0 : Int32))) := ⟨_, rfl⟩
  have hl : vs.length = n := by rw [evs, List.length_replicate]
  rw [← evs] at O2
  have hv : vs.length ≤ 8 := by omega
  refine Wp.astore (L' := #[.val (.int p0), .val (.int p1), .val (.int (Int32.ofNat n)), .val (.int (Int32.ofNat k0)), .val (.ref a), .unset, .unset]) (pc' := 19) at_17 rfl rfl rfl ?_
  refine Wp.newO (pc' := 22) O2 (hw _ (List.mem_of_getElem? (i := 2) rfl)) (hw _ (List.mem_of_getElem? (i := 3) rfl)) (hw _ (List.mem_of_getElem? (i := 4) rfl)) [("payload", "[B", .null), ("position", "I", (.int (0 : Int32)))] (List.forall_mem_cons.2 ⟨⟨Or.inr (hw _ (List.mem_of_getElem? (i := 12) rfl)), (.array .byte), by decide, rfl⟩, (List.forall_mem_cons.2 ⟨⟨Or.inl (hw _ (List.mem_of_getElem? (i := 19) rfl)), .int, by decide, rfl⟩, (fun _ q => nomatch q)⟩)⟩) at_19 (by decide) (by decide) rfl ?_
  intro h3 r O3
  have O3 : Hp h3 n0 [(r, ObC Z a0 "com/example/shardwell/shardwell/PayloadReader" [("payload", "[B", .null), ("position", "I", (.int (0 : Int32)))]), (a, ArC Z k1 .byte vs)] := O3
  refine Wp.dup (pc' := 23) at_22 rfl rfl ?_
  refine Wp.aload (pc' := 25) at_23 rfl rfl rfl ?_
  refine Wp.callI (yy := (⟨"com/example/shardwell/shardwell/PayloadReader", "<init>", "([B)V"⟩ : MethodName)) (pc' := 28) (argsL := [(.ref a)]) (a := r) (S := [(.ref r)]) (rm_ini l Z a0 hw r a h3 n0 O3) rfl (hw _ (List.mem_of_getElem? (i := 5) rfl)) (hw _ (List.mem_of_getElem? (i := 6) rfl)) (hw _ (List.mem_of_getElem? (i := 4) rfl)) (hw _ (List.mem_of_getElem? (i := 7) rfl)) (by decide) (W := 1) rfl (lenOf pd_4 rfl) rfl rfl (Nat.le_refl 1) (by decide) (by decide) (by decide) (by decide) at_25 rfl ?_
  rintro _ h4 ⟨rfl, O4⟩
  have O4 : Hp h4 n0 [(r, ObC Z a0 "com/example/shardwell/shardwell/PayloadReader" [("payload", "[B", (.ref a)), ("position", "I", (.int (0 : Int32)))]), (a, ArC Z k1 .byte vs)] := O4
  show Wp _ _ _ _ _ _ _ _ _ _ _ _ 28 #[.val (.int p0), .val (.int p1), .val (.int (Int32.ofNat n)), .val (.int (Int32.ofNat k0)), .val (.ref a), .unset, .unset] [(.ref r)]
  have Oz : Hp h4 n0 [(r, ObC Z a0 "com/example/shardwell/shardwell/PayloadReader" [("payload", "[B", (.ref a)), ("position", "I", (.int (Int32.ofNat 0)))]), (a, ArC Z k1 .byte vs)] := O4
  refine Wp.astore (L' := #[.val (.int p0), .val (.int p1), .val (.int (Int32.ofNat n)), .val (.int (Int32.ofNat k0)), .val (.ref a), .val (.ref r), .unset]) (pc' := 30) at_28 rfl rfl rfl ?_
  refine Wp.aload (pc' := 32) at_30 rfl rfl rfl ?_
  refine Wp.callV (yy := (⟨"com/example/shardwell/shardwell/PayloadReader", "atEnd", "()Z"⟩ : MethodName)) (zz := (⟨"com/example/shardwell/shardwell/PayloadReader", "atEnd", "()Z"⟩ : MethodName)) (pc' := 35) (argsL := []) (a := r) (S := []) (rm_end l Z a0 hw r a k1 vs 0 (by omega) hv h4 n0 Oz) (Oz.exa (i := 0) rfl) (hw _ (List.mem_of_getElem? (i := 13) rfl)) (hw _ (List.mem_of_getElem? (i := 14) rfl)) (hw _ (List.mem_of_getElem? (i := 16) rfl)) (hw _ (List.mem_of_getElem? (i := 15) rfl)) (hw _ (List.mem_of_getElem? (i := 4) rfl)) (hw _ (List.mem_of_getElem? (i := 17) rfl)) (nfS (hw _ (List.mem_of_getElem? (i := 16) rfl))) (by decide) (W := 0) rfl (lenOf pd_5 rfl) rfl rfl (Nat.le_refl 0) (by decide) (by decide) (by decide) (by decide) at_32 rfl ?_
  rintro _ _ ⟨rfl, rfl⟩
  show Wp _ _ _ _ _ _ _ _ _ _ _ _ 35 #[.val (.int p0), .val (.int p1), .val (.int (Int32.ofNat n)), .val (.int (Int32.ofNat k0)), .val (.ref a), .val (.ref r), .unset] [(.int (own_e 0 vs.length))]
  refine Wp.iloadN (pc' := 36) at_35 rfl rfl ?_
  have tail1 : Wp l Z room_1 x code maxLocals ret n0 (fun v _ => v = some (.int 1)) h4 2 10 54 #[.val (.int p0), .val (.int p1), .val (.int (Int32.ofNat n)), .val (.int (Int32.ofNat k0)), .val (.ref a), .val (.ref r), .val (.int (1 : Int32))] [] := by
    refine Wp.aload (pc' := 56) at_54 rfl rfl rfl ?_
    refine Wp.iloadN (pc' := 57) at_56 rfl rfl ?_
    refine Wp.i2l (z := (((Int32.ofNat k0)).toInt64)) (pc' := 58) at_57 rfl rfl ?_
    have hb := own_r0 k0
    refine Wp.callV (yy := (⟨"com/example/shardwell/shardwell/PayloadReader", "bytes", "(J)[B"⟩ : MethodName)) (zz := (⟨"com/example/shardwell/shardwell/PayloadReader", "bytes", "(J)[B"⟩ : MethodName)) (pc' := 61) (argsL := [(.long (((Int32.ofNat k0)).toInt64))]) (a := r) (S := []) (rm_byt l Z a0 hw r a k1 vs 0 (by omega) hv k0 (by omega) hka h4 n0 Oz) (Oz.exa (i := 0) rfl) (hw _ (List.mem_of_getElem? (i := 20) rfl)) (hw _ (List.mem_of_getElem? (i := 21) rfl)) (hw _ (List.mem_of_getElem? (i := 23) rfl)) (hw _ (List.mem_of_getElem? (i := 22) rfl)) (hw _ (List.mem_of_getElem? (i := 4) rfl)) (hw _ (List.mem_of_getElem? (i := 24) rfl)) (nfS (hw _ (List.mem_of_getElem? (i := 23) rfl))) (by decide) (W := 0) rfl (lenOf pd_6 rfl) rfl rfl (Nat.le_refl 0) (by decide) (by decide) (by decide) (by decide) at_58 rfl ?_
    rintro _ h5 ⟨⟨b1, rfl⟩, O5⟩
    have O5 : Hp h5 n0 [(r, ObC Z a0 "com/example/shardwell/shardwell/PayloadReader" [("payload", "[B", (.ref a)), ("position", "I", (.int (Int32.ofNat (0 + k0))))]), (a, ArC Z k1 .byte vs)] := O5
    show Wp _ _ _ _ _ _ _ _ _ _ _ _ 61 #[.val (.int p0), .val (.int p1), .val (.int (Int32.ofNat n)), .val (.int (Int32.ofNat k0)), .val (.ref a), .val (.ref r), .val (.int (1 : Int32))] [(.ref b1)]
    refine Wp.pop (pc' := 62) at_61 rfl rfl ?_
    refine Wp.iload (pc' := 64) at_62 rfl rfl ?_
    refine Wp.ifN (pc' := 67) at_64 (by decide) rfl ?_
    refine Wp.aload (pc' := 69) at_67 rfl rfl rfl ?_
    refine Wp.callV (yy := (⟨"com/example/shardwell/shardwell/PayloadReader", "atEnd", "()Z"⟩ : MethodName)) (zz := (⟨"com/example/shardwell/shardwell/PayloadReader", "atEnd", "()Z"⟩ : MethodName)) (pc' := 72) (argsL := []) (a := r) (S := []) (rm_end l Z a0 hw r a k1 vs (0 + k0) (by omega) hv h5 n0 O5) (O5.exa (i := 0) rfl) (hw _ (List.mem_of_getElem? (i := 13) rfl)) (hw _ (List.mem_of_getElem? (i := 14) rfl)) (hw _ (List.mem_of_getElem? (i := 16) rfl)) (hw _ (List.mem_of_getElem? (i := 15) rfl)) (hw _ (List.mem_of_getElem? (i := 4) rfl)) (hw _ (List.mem_of_getElem? (i := 17) rfl)) (nfS (hw _ (List.mem_of_getElem? (i := 16) rfl))) (by decide) (W := 0) rfl (lenOf pd_5 rfl) rfl rfl (Nat.le_refl 0) (by decide) (by decide) (by decide) (by decide) at_69 rfl ?_
    rintro _ _ ⟨rfl, rfl⟩
    show Wp _ _ _ _ _ _ _ _ _ _ _ _ 72 #[.val (.int p0), .val (.int p1), .val (.int (Int32.ofNat n)), .val (.int (Int32.ofNat k0)), .val (.ref a), .val (.ref r), .val (.int (1 : Int32))] [(.int (own_e (0 + k0) vs.length))]
    refine Wp.iloadN (pc' := 73) at_72 rfl rfl ?_
    refine Wp.iloadN (pc' := 74) at_73 rfl rfl ?_
    have tail2 : Wp l Z room_1 x code maxLocals ret n0 (fun v _ => v = some (.int 1)) h5 3 18 92 #[.val (.int p0), .val (.int p1), .val (.int (Int32.ofNat n)), .val (.int (Int32.ofNat k0)), .val (.ref a), .val (.ref r), .val (.int (1 : Int32))] [] := by
      refine Wp.iloadN (pc' := 93) at_92 rfl rfl ?_
      refine Wp.iloadN (pc' := 94) at_93 rfl rfl ?_
      by_cases c94 : (Int32.ofNat k0) < (Int32.ofNat n)
      · refine Wp.icmpN (pc' := 97) at_94 (not_not_intro c94) rfl ?_
        have g : k0 < n := (own_lt (by omega) (by omega)).mp c94
        refine Wp.aload (pc' := 99) at_97 rfl rfl rfl ?_
        refine Wp.callV (yy := (⟨"com/example/shardwell/shardwell/PayloadReader", "int1", "()I"⟩ : MethodName)) (zz := (⟨"com/example/shardwell/shardwell/PayloadReader", "int1", "()I"⟩ : MethodName)) (pc' := 102) (argsL := []) (a := r) (S := []) (rm_int l Z a0 hw r a k1 vs (0 + k0) (by omega) hv 0 (by rw [evs, List.getElem?_replicate, if_pos (by omega)]) h5 n0 O5) (O5.exa (i := 0) rfl) (hw _ (List.mem_of_getElem? (i := 57) rfl)) (hw _ (List.mem_of_getElem? (i := 58) rfl)) (hw _ (List.mem_of_getElem? (i := 60) rfl)) (hw _ (List.mem_of_getElem? (i := 59) rfl)) (hw _ (List.mem_of_getElem? (i := 4) rfl)) (hw _ (List.mem_of_getElem? (i := 61) rfl)) (nfS (hw _ (List.mem_of_getElem? (i := 60) rfl))) (by decide) (W := 0) rfl (lenOf pd_7 rfl) rfl rfl (Nat.le_refl 0) (by decide) (by decide) (by decide) (by decide) at_99 rfl ?_
        rintro _ h6 ⟨⟨z1, rfl⟩, O6⟩
        have O6 : Hp h6 n0 [(r, ObC Z a0 "com/example/shardwell/shardwell/PayloadReader" [("payload", "[B", (.ref a)), ("position", "I", (.int (Int32.ofNat (0 + k0 + 1))))]), (a, ArC Z k1 .byte vs)] := O6
        show Wp _ _ _ _ _ _ _ _ _ _ _ _ 102 #[.val (.int p0), .val (.int p1), .val (.int (Int32.ofNat n)), .val (.int (Int32.ofNat k0)), .val (.ref a), .val (.ref r), .val (.int (1 : Int32))] [(.int z1)]
        refine Wp.pop (pc' := 103) at_102 rfl rfl ?_
        refine Wp.iload (pc' := 105) at_103 rfl rfl ?_
        refine Wp.ifN (pc' := 108) at_105 (by decide) rfl ?_
        refine Wp.aload (pc' := 110) at_108 rfl rfl rfl ?_
        refine Wp.callV (yy := (⟨"com/example/shardwell/shardwell/PayloadReader", "atEnd", "()Z"⟩ : MethodName)) (zz := (⟨"com/example/shardwell/shardwell/PayloadReader", "atEnd", "()Z"⟩ : MethodName)) (pc' := 113) (argsL := []) (a := r) (S := []) (rm_end l Z a0 hw r a k1 vs (0 + k0 + 1) (by omega) hv h6 n0 O6) (O6.exa (i := 0) rfl) (hw _ (List.mem_of_getElem? (i := 13) rfl)) (hw _ (List.mem_of_getElem? (i := 14) rfl)) (hw _ (List.mem_of_getElem? (i := 16) rfl)) (hw _ (List.mem_of_getElem? (i := 15) rfl)) (hw _ (List.mem_of_getElem? (i := 4) rfl)) (hw _ (List.mem_of_getElem? (i := 17) rfl)) (nfS (hw _ (List.mem_of_getElem? (i := 16) rfl))) (by decide) (W := 0) rfl (lenOf pd_5 rfl) rfl rfl (Nat.le_refl 0) (by decide) (by decide) (by decide) (by decide) at_110 rfl ?_
        rintro _ _ ⟨rfl, rfl⟩
        show Wp _ _ _ _ _ _ _ _ _ _ _ _ 113 #[.val (.int p0), .val (.int p1), .val (.int (Int32.ofNat n)), .val (.int (Int32.ofNat k0)), .val (.ref a), .val (.ref r), .val (.int (1 : Int32))] [(.int (own_e (0 + k0 + 1) vs.length))]
        refine Wp.iloadN (pc' := 114) at_113 rfl rfl ?_
        refine Wp.iconst (z := (1 : Int32)) (pc' := 115) at_114 (by decide) rfl ?_
        refine Wp.iadd (z := (Int32.ofNat (k0 + 1))) (pc' := 116) at_115 (own_one k0) rfl ?_
        refine Wp.iloadN (pc' := 117) at_116 rfl rfl ?_
        have tail3 : Wp l Z room_1 x code maxLocals ret n0 (fun v _ => v = some (.int 1)) h6 3 18 135 #[.val (.int p0), .val (.int p1), .val (.int (Int32.ofNat n)), .val (.int (Int32.ofNat k0)), .val (.ref a), .val (.ref r), .val (.int (1 : Int32))] [] := by
          refine Wp.aload (pc' := 137) at_135 rfl rfl rfl ?_
          refine Wp.callV (yy := (⟨"com/example/shardwell/shardwell/PayloadReader", "rest", "()[B"⟩ : MethodName)) (zz := (⟨"com/example/shardwell/shardwell/PayloadReader", "rest", "()[B"⟩ : MethodName)) (pc' := 140) (argsL := []) (a := r) (S := []) (rm_rst l Z a0 hw r a k1 vs (0 + k0 + 1) (by omega) hv hka h6 n0 O6) (O6.exa (i := 0) rfl) (hw _ (List.mem_of_getElem? (i := 38) rfl)) (hw _ (List.mem_of_getElem? (i := 39) rfl)) (hw _ (List.mem_of_getElem? (i := 41) rfl)) (hw _ (List.mem_of_getElem? (i := 40) rfl)) (hw _ (List.mem_of_getElem? (i := 4) rfl)) (hw _ (List.mem_of_getElem? (i := 42) rfl)) (nfS (hw _ (List.mem_of_getElem? (i := 41) rfl))) (by decide) (W := 0) rfl (lenOf pd_8 rfl) rfl rfl (Nat.le_refl 0) (by decide) (by decide) (by decide) (by decide) at_137 rfl ?_
          rintro _ h7 ⟨⟨b3, rfl⟩, O7⟩
          have O7 : Hp h7 n0 [(r, ObC Z a0 "com/example/shardwell/shardwell/PayloadReader" [("payload", "[B", (.ref a)), ("position", "I", (.int (Int32.ofNat vs.length)))]), (a, ArC Z k1 .byte vs)] := O7
          show Wp _ _ _ _ _ _ _ _ _ _ _ _ 140 #[.val (.int p0), .val (.int p1), .val (.int (Int32.ofNat n)), .val (.int (Int32.ofNat k0)), .val (.ref a), .val (.ref r), .val (.int (1 : Int32))] [(.ref b3)]
          refine Wp.pop (pc' := 141) at_140 rfl rfl ?_
          refine Wp.iload (pc' := 143) at_141 rfl rfl ?_
          refine Wp.ifN (pc' := 146) at_143 (by decide) rfl ?_
          refine Wp.aload (pc' := 148) at_146 rfl rfl rfl ?_
          refine Wp.callV (yy := (⟨"com/example/shardwell/shardwell/PayloadReader", "atEnd", "()Z"⟩ : MethodName)) (zz := (⟨"com/example/shardwell/shardwell/PayloadReader", "atEnd", "()Z"⟩ : MethodName)) (pc' := 151) (argsL := []) (a := r) (S := []) (rm_end l Z a0 hw r a k1 vs vs.length (by omega) hv h7 n0 O7) (O7.exa (i := 0) rfl) (hw _ (List.mem_of_getElem? (i := 13) rfl)) (hw _ (List.mem_of_getElem? (i := 14) rfl)) (hw _ (List.mem_of_getElem? (i := 16) rfl)) (hw _ (List.mem_of_getElem? (i := 15) rfl)) (hw _ (List.mem_of_getElem? (i := 4) rfl)) (hw _ (List.mem_of_getElem? (i := 17) rfl)) (nfS (hw _ (List.mem_of_getElem? (i := 16) rfl))) (by decide) (W := 0) rfl (lenOf pd_5 rfl) rfl rfl (Nat.le_refl 0) (by decide) (by decide) (by decide) (by decide) at_148 rfl ?_
          rintro _ _ ⟨rfl, rfl⟩
          show Wp _ _ _ _ _ _ _ _ _ _ _ _ 151 #[.val (.int p0), .val (.int p1), .val (.int (Int32.ofNat n)), .val (.int (Int32.ofNat k0)), .val (.ref a), .val (.ref r), .val (.int (1 : Int32))] [(.int (own_e vs.length vs.length))]
          refine Wp.ifN (pc' := 154) at_151 (by unfold own_e; rw [if_pos rfl]; decide) rfl ?_
          refine Wp.iconst (z := (1 : Int32)) (pc' := 155) at_154 (by decide) rfl ?_
          refine Wp.goto (pc' := 159) at_155 (by decide) (by decide) ?_
          refine Wp.istore (L' := #[.val (.int p0), .val (.int p1), .val (.int (Int32.ofNat n)), .val (.int (Int32.ofNat k0)), .val (.ref a), .val (.ref r), .val (.int (1 : Int32))]) (pc' := 161) at_159 rfl rfl ?_
          refine Wp.iload (pc' := 163) at_161 rfl rfl ?_
          exact Wp.retS (t := .boolean) rfl (Or.inl rfl) rfl at_163 (by decide) (by decide) rfl
        by_cases c117 : (Int32.ofNat (k0 + 1)) = (Int32.ofNat n)
        · refine Wp.icmpN (pc' := 120) at_117 (not_not_intro c117) rfl ?_
          refine Wp.iconst (z := (1 : Int32)) (pc' := 121) at_120 (by decide) rfl ?_
          refine Wp.goto (pc' := 125) at_121 (by decide) (by decide) ?_
          refine Wp.icmpN (pc' := 128) at_125 (not_not_intro (by rw [own_inj (by omega) (by omega)] at c117; unfold own_e; rw [if_pos (by omega)])) rfl ?_
          refine Wp.iconst (z := (1 : Int32)) (pc' := 129) at_128 (by decide) rfl ?_
          refine Wp.goto (pc' := 133) at_129 (by decide) (by decide) ?_
          refine Wp.istore (L' := #[.val (.int p0), .val (.int p1), .val (.int (Int32.ofNat n)), .val (.int (Int32.ofNat k0)), .val (.ref a), .val (.ref r), .val (.int (1 : Int32))]) (pc' := 135) at_133 rfl rfl ?_
          exact tail3
        · refine Wp.icmpY (pc' := 124) at_117 c117 (by decide) (by decide) ?_
          refine Wp.iconst (z := (0 : Int32)) (pc' := 125) at_124 (by decide) rfl ?_
          refine Wp.icmpN (pc' := 128) at_125 (not_not_intro (by rw [own_inj (by omega) (by omega)] at c117; unfold own_e; rw [if_neg (by omega)])) rfl ?_
          refine Wp.iconst (z := (1 : Int32)) (pc' := 129) at_128 (by decide) rfl ?_
          refine Wp.goto (pc' := 133) at_129 (by decide) (by decide) ?_
          refine Wp.istore (L' := #[.val (.int p0), .val (.int p1), .val (.int (Int32.ofNat n)), .val (.int (Int32.ofNat k0)), .val (.ref a), .val (.ref r), .val (.int (1 : Int32))]) (pc' := 135) at_133 rfl rfl ?_
          exact tail3
      · refine Wp.icmpY (pc' := 135) at_94 c94 (by decide) (by decide) ?_
        refine Wp.aload (pc' := 137) at_135 rfl rfl rfl ?_
        refine Wp.callV (yy := (⟨"com/example/shardwell/shardwell/PayloadReader", "rest", "()[B"⟩ : MethodName)) (zz := (⟨"com/example/shardwell/shardwell/PayloadReader", "rest", "()[B"⟩ : MethodName)) (pc' := 140) (argsL := []) (a := r) (S := []) (rm_rst l Z a0 hw r a k1 vs (0 + k0) (by omega) hv hka h5 n0 O5) (O5.exa (i := 0) rfl) (hw _ (List.mem_of_getElem? (i := 38) rfl)) (hw _ (List.mem_of_getElem? (i := 39) rfl)) (hw _ (List.mem_of_getElem? (i := 41) rfl)) (hw _ (List.mem_of_getElem? (i := 40) rfl)) (hw _ (List.mem_of_getElem? (i := 4) rfl)) (hw _ (List.mem_of_getElem? (i := 42) rfl)) (nfS (hw _ (List.mem_of_getElem? (i := 41) rfl))) (by decide) (W := 0) rfl (lenOf pd_8 rfl) rfl rfl (Nat.le_refl 0) (by decide) (by decide) (by decide) (by decide) at_137 rfl ?_
        rintro _ h8 ⟨⟨b3, rfl⟩, O8⟩
        have O8 : Hp h8 n0 [(r, ObC Z a0 "com/example/shardwell/shardwell/PayloadReader" [("payload", "[B", (.ref a)), ("position", "I", (.int (Int32.ofNat vs.length)))]), (a, ArC Z k1 .byte vs)] := O8
        show Wp _ _ _ _ _ _ _ _ _ _ _ _ 140 #[.val (.int p0), .val (.int p1), .val (.int (Int32.ofNat n)), .val (.int (Int32.ofNat k0)), .val (.ref a), .val (.ref r), .val (.int (1 : Int32))] [(.ref b3)]
        refine Wp.pop (pc' := 141) at_140 rfl rfl ?_
        refine Wp.iload (pc' := 143) at_141 rfl rfl ?_
        refine Wp.ifN (pc' := 146) at_143 (by decide) rfl ?_
        refine Wp.aload (pc' := 148) at_146 rfl rfl rfl ?_
        refine Wp.callV (yy := (⟨"com/example/shardwell/shardwell/PayloadReader", "atEnd", "()Z"⟩ : MethodName)) (zz := (⟨"com/example/shardwell/shardwell/PayloadReader", "atEnd", "()Z"⟩ : MethodName)) (pc' := 151) (argsL := []) (a := r) (S := []) (rm_end l Z a0 hw r a k1 vs vs.length (by omega) hv h8 n0 O8) (O8.exa (i := 0) rfl) (hw _ (List.mem_of_getElem? (i := 13) rfl)) (hw _ (List.mem_of_getElem? (i := 14) rfl)) (hw _ (List.mem_of_getElem? (i := 16) rfl)) (hw _ (List.mem_of_getElem? (i := 15) rfl)) (hw _ (List.mem_of_getElem? (i := 4) rfl)) (hw _ (List.mem_of_getElem? (i := 17) rfl)) (nfS (hw _ (List.mem_of_getElem? (i := 16) rfl))) (by decide) (W := 0) rfl (lenOf pd_5 rfl) rfl rfl (Nat.le_refl 0) (by decide) (by decide) (by decide) (by decide) at_148 rfl ?_
        rintro _ _ ⟨rfl, rfl⟩
        show Wp _ _ _ _ _ _ _ _ _ _ _ _ 151 #[.val (.int p0), .val (.int p1), .val (.int (Int32.ofNat n)), .val (.int (Int32.ofNat k0)), .val (.ref a), .val (.ref r), .val (.int (1 : Int32))] [(.int (own_e vs.length vs.length))]
        refine Wp.ifN (pc' := 154) at_151 (by unfold own_e; rw [if_pos rfl]; decide) rfl ?_
        refine Wp.iconst (z := (1 : Int32)) (pc' := 155) at_154 (by decide) rfl ?_
        refine Wp.goto (pc' := 159) at_155 (by decide) (by decide) ?_
        refine Wp.istore (L' := #[.val (.int p0), .val (.int p1), .val (.int (Int32.ofNat n)), .val (.int (Int32.ofNat k0)), .val (.ref a), .val (.ref r), .val (.int (1 : Int32))]) (pc' := 161) at_159 rfl rfl ?_
        refine Wp.iload (pc' := 163) at_161 rfl rfl ?_
        exact Wp.retS (t := .boolean) rfl (Or.inl rfl) rfl at_163 (by decide) (by decide) rfl
    by_cases c74 : (Int32.ofNat k0) = (Int32.ofNat n)
    · refine Wp.icmpN (pc' := 77) at_74 (not_not_intro c74) rfl ?_
      refine Wp.iconst (z := (1 : Int32)) (pc' := 78) at_77 (by decide) rfl ?_
      refine Wp.goto (pc' := 82) at_78 (by decide) (by decide) ?_
      refine Wp.icmpN (pc' := 85) at_82 (not_not_intro (by rw [own_inj (by omega) (by omega)] at c74; unfold own_e; rw [if_pos (by omega)])) rfl ?_
      refine Wp.iconst (z := (1 : Int32)) (pc' := 86) at_85 (by decide) rfl ?_
      refine Wp.goto (pc' := 90) at_86 (by decide) (by decide) ?_
      refine Wp.istore (L' := #[.val (.int p0), .val (.int p1), .val (.int (Int32.ofNat n)), .val (.int (Int32.ofNat k0)), .val (.ref a), .val (.ref r), .val (.int (1 : Int32))]) (pc' := 92) at_90 rfl rfl ?_
      exact tail2
    · refine Wp.icmpY (pc' := 81) at_74 c74 (by decide) (by decide) ?_
      refine Wp.iconst (z := (0 : Int32)) (pc' := 82) at_81 (by decide) rfl ?_
      refine Wp.icmpN (pc' := 85) at_82 (not_not_intro (by rw [own_inj (by omega) (by omega)] at c74; unfold own_e; rw [if_neg (by omega)])) rfl ?_
      refine Wp.iconst (z := (1 : Int32)) (pc' := 86) at_85 (by decide) rfl ?_
      refine Wp.goto (pc' := 90) at_86 (by decide) (by decide) ?_
      refine Wp.istore (L' := #[.val (.int p0), .val (.int p1), .val (.int (Int32.ofNat n)), .val (.int (Int32.ofNat k0)), .val (.ref a), .val (.ref r), .val (.int (1 : Int32))]) (pc' := 92) at_90 rfl rfl ?_
      exact tail2
  by_cases c36 : (Int32.ofNat n) = 0
  · refine Wp.ifN (pc' := 39) at_36 (not_not_intro c36) rfl ?_
    refine Wp.iconst (z := (1 : Int32)) (pc' := 40) at_39 (by decide) rfl ?_
    refine Wp.goto (pc' := 44) at_40 (by decide) (by decide) ?_
    refine Wp.icmpN (pc' := 47) at_44 (not_not_intro (by rw [show (0 : Int32) = Int32.ofNat 0 from rfl, own_inj (by omega) (by omega)] at c36; unfold own_e; rw [if_pos (by omega)])) rfl ?_
    refine Wp.iconst (z := (1 : Int32)) (pc' := 48) at_47 (by decide) rfl ?_
    refine Wp.goto (pc' := 52) at_48 (by decide) (by decide) ?_
    refine Wp.istore (L' := #[.val (.int p0), .val (.int p1), .val (.int (Int32.ofNat n)), .val (.int (Int32.ofNat k0)), .val (.ref a), .val (.ref r), .val (.int (1 : Int32))]) (pc' := 54) at_52 rfl rfl ?_
    exact tail1
  · refine Wp.ifY (pc' := 43) at_36 c36 (by decide) (by decide) ?_
    refine Wp.iconst (z := (0 : Int32)) (pc' := 44) at_43 (by decide) rfl ?_
    refine Wp.icmpN (pc' := 47) at_44 (not_not_intro (by rw [show (0 : Int32) = Int32.ofNat 0 from rfl, own_inj (by omega) (by omega)] at c36; unfold own_e; rw [if_neg (by omega)])) rfl ?_
    refine Wp.iconst (z := (1 : Int32)) (pc' := 48) at_47 (by decide) rfl ?_
    refine Wp.goto (pc' := 52) at_48 (by decide) (by decide) ?_
    refine Wp.istore (L' := #[.val (.int p0), .val (.int p1), .val (.int (Int32.ofNat n)), .val (.int (Int32.ofNat k0)), .val (.ref a), .val (.ref r), .val (.int (1 : Int32))]) (pc' := 54) at_52 rfl rfl ?_
    exact tail1

set_option maxRecDepth 65536 in
set_option maxHeartbeats 40000000 in
theorem comes_1 {Post : Tables → Env → Array Value → State → Outcome → State → Prop} (hpost : ∀ tb e args s v u, (limb_1_1.after args s (.returned v) u = true ∧ limb_1_2.after args s (.returned v) u = true ∧ True) → FrameEnd s (.returned v) u (Jvm.fieldLocs frame_1_writes args s ++ Jvm.arrayLocs frame_1_arrays args s ++ Jvm.staticLocs frame_1_statics s) 16 128 → Post tb e args s (.returned v) u) :
    ArmFor flags0 classFile x code maxLocals ret World_1 tables_1 room_1 Calls_1 rest_1 Pre_1 Post := by
  intro l hfl _ _ p e ha hc hk s m args below hf hA hF happ hP
  obtain ⟨hcalls, hrest, hpre⟩ := hP
  obtain ⟨-, -, -, hnamed, -, -, -, hat⟩ := (Spec.applies_iff hf).mp happ
  obtain ⟨hg, hn⟩ := and_e (Cond.before_iff.mp (show (Jvm.Cond.and given_1 narrow_1).before args s = true from hpre))
  obtain ⟨g0, q0⟩ := and_e hg
  obtain ⟨w0, w1, rfl⟩ : ∃ w0 w1 : Value, args = #[w0, w1] := by
    have hs : args.size = 2 := by simpa [Cond.value, given_1] using g0
    obtain ⟨L⟩ := args
    match L, hs with
    | [w0, w1], _ => exact ⟨w0, w1, rfl⟩
  have hw := fun d (hd : d ∈ tables_1) => atoms_spec (ws := Jvm.Cond.code x code maxLocals ret :: tables_1) hat d (List.mem_cons_of_mem _ hd)
  obtain ⟨g1, q1⟩ := and_e q0
  obtain ⟨i0, e0⟩ := is_v g1
  obtain rfl : w0 = (.int i0) := Option.some.inj e0
  obtain ⟨i1, e1⟩ := is_v q1
  obtain rfl : w1 = (.int i1) := Option.some.inj e1
  obtain ⟨n, o, h1, h2, h3, v, L, rfl, ⟨hv, N⟩, hq⟩ := (rm0 l s _ hw i0 i1 s.heap s.heap.size (Nat.le_refl _)) tables_1 p e ha hc hk s m _ below hf ((Spec.applies_iff_loose hf).mp happ).1 ⟨rfl, State.Warmed39.refl s, rfl⟩ trivial
  subst hv
  refine ⟨n, _, h1, h2, h3, hpost _ _ _ _ _ _ ⟨Cond.after_iff.mpr rfl, Cond.after_iff.mpr (eq_i res_at (Term.int_eval (1)) rfl), trivial⟩ ⟨hq.1, hq.2.1, (hq.2.2.sift fun y hy => Or.inr (N y hy)).mono (by decide) (by decide)⟩⟩
theorem main_1_1 : Claimed_1_1 := comes_1 fun _ _ _ _ _ _ h hF => ⟨h.1, hF⟩
theorem main_1_2 : Claimed_1_2 := comes_1 fun _ _ _ _ _ _ h hF => ⟨h.2.1, hF⟩

end Jvm.Pilot.@@N@@
namespace Jvm.Pilot.@@N@@
open Jvm Jvm.ClassFile Sem Op Lib Jvm.Free Jvm.Stand Jvm.Pilot.@@N@@.Jvm.D
/-! MADE BY PROGRAM (witnessworld.py) out of the Statement's table words and the real class files: 12 classes; the members and pool entries that the words name. The judged class is class 1, her method 1. -/
namespace start1
open Jvm.ClassFile
def u (s : String) : CpInfo := .utf8 (stringToUtf16 s)
/-- a pool by its gaps: so many unusable entries, then the entry; so many at the end -/
def gap : Nat → List CpInfo → List CpInfo
  | 0, r => r
  | n + 1, r => .unusable :: gap n r
def poolList (es : List (Nat × CpInfo)) (last : Nat) : List CpInfo := es.foldr (fun e r => gap e.1 (e.2 :: r)) (gap last [])
def pool (es : List (Nat × CpInfo)) (last : Nat) : Array CpInfo := ⟨poolList es last⟩
def fileOf (pool : Array CpInfo) (this : Nat) (attrs : Array Attribute := #[]) (ms : Array MethodInfo := #[]) (fl : Nat := 33) (sup : Nat := 0) (ifs : Array Nat := #[]) (fds : Array FieldInfo := #[]) : ClassFile where
  minorVersion := 0
  majorVersion := 65
  constantPool := pool
  accessFlags := fl
  thisClass := this
  superClass := sup
  interfaces := ifs
  fields := fds
  methods := ms
  attributes := attrs
def plain (name : String) (sup : Option ClassId) : Class where
  name := name
  kind := .ordinary
  loader := none
  accessFlags := 33
  super := sup
  interfaces := #[]
  cf := none
  fields := #[]
  methods := #[]
  instanceTypes := #[]
  staticTypes := #[]
  resolved := #[]
  callSites := []
  init := .initialized
  statics := none
  mirror := none

def pool0 : Array CpInfo := pool [(5, u "<init>"), (0, u "()V"), (1, .class_ 10), (1, u "java/lang/Object"), (85, u "clone"), (0, u "()Ljava/lang/Object;")] 26

def k0c0 : Code := { maxStack := 0, maxLocals := 1, code := object_method_1_code, exceptionTable := #[], attributes := #[] }
def k0m0 : Method := { name := "<init>", desc := "()V", sig := { parameters := [], returnType := none }, accessFlags := 1, code := some k0c0 }
def k0m1 : Method := { name := "clone", desc := "()Ljava/lang/Object;", sig := { parameters := [], returnType := some (.object "java/lang/Object") }, accessFlags := 260, code := none }
/-- java/lang/Object -/
def k0 : Class := { plain "java/lang/Object" none with
  accessFlags := 33
  interfaces := #[]
  cf := some (fileOf pool0 8 #[] #[{ accessFlags := 1, nameIndex := 5, descriptorIndex := 6, attributes := #[] }, { accessFlags := 260, nameIndex := 96, descriptorIndex := 97, attributes := #[] }] 33 0 #[] #[])
  fields := #[]
  methods := #[k0m0, k0m1]
  instanceTypes := #[]
  staticTypes := #[]
  resolved := Array.replicate 124 none
  statics := none }

def pool1 : Array CpInfo := pool [(2, .class_ 4), (1, u "java/lang/Object"), (0, u "<init>"), (0, u "()V"), (0, .integer 2147483647), (0, .class_ 9), (0, u "com/example/shardwell/shardwell/PayloadReader"), (0, .methodref 8 11), (0, .nameAndType 5 12), (0, u "([B)V"), (0, .methodref 8 14), (0, .nameAndType 15 16), (0, u "atEnd"), (0, u "()Z"), (0, .methodref 8 18), (0, .nameAndType 19 20), (0, u "bytes"), (0, u "(J)[B"), (0, .methodref 8 22), (0, .nameAndType 23 24), (0, u "int1"), (0, u "()I"), (0, .methodref 8 26), (0, .nameAndType 27 28), (0, u "rest"), (0, u "()[B"), (0, .class_ 30), (0, u "com/example/shardwell/shardwell/PayloadReaderAtEndPinLaw"), (2, u "law"), (0, u "(II)Z")] 8

def k1m0 : Method := { name := "<init>", desc := "()V", sig := { parameters := [], returnType := none }, accessFlags := 2, code := none }
def k1c1 : Code := { maxStack := 3, maxLocals := 7, code := code, exceptionTable := #[], attributes := #[] }
def k1m1 : Method := { name := "law", desc := "(II)Z", sig := { parameters := [.int, .int], returnType := some .boolean }, accessFlags := 9, code := some k1c1 }
/-- com/example/shardwell/shardwell/PayloadReaderAtEndPinLaw -/
def k1 : Class := { plain "com/example/shardwell/shardwell/PayloadReaderAtEndPinLaw" (some 0) with
  accessFlags := 49
  interfaces := #[]
  cf := some (fileOf pool1 29 #[] #[{ accessFlags := 2, nameIndex := 5, descriptorIndex := 6, attributes := #[] }, { accessFlags := 9, nameIndex := 33, descriptorIndex := 34, attributes := #[] }] 49 2 #[] #[])
  fields := #[]
  methods := #[k1m0, k1m1]
  instanceTypes := #[]
  staticTypes := #[]
  resolved := Array.replicate 43 none
  statics := none }

def pool2 : Array CpInfo := pool [(1, .methodref 2 3), (0, .class_ 4), (0, .nameAndType 5 6), (0, u "java/lang/Object"), (0, u "<init>"), (0, u "()V"), (0, .fieldref 8 9), (0, .class_ 10), (0, .nameAndType 11 12), (0, u "com/example/shardwell/shardwell/PayloadReader"), (0, u "payload"), (0, u "[B"), (0, .fieldref 8 14), (0, .nameAndType 15 16), (0, u "position"), (0, u "I"), (0, .methodref 8 18), (0, .nameAndType 19 20), (0, u "require"), (0, u "(I)V"), (2, u "int1"), (0, u "()I"), (12, .class_ 38), (0, u "com/example/shardwell/shardwell/PayloadReader$MalformedPacketException"), (1, .methodref 41 42), (0, .class_ 43), (0, .nameAndType 44 45), (0, u "java/util/Arrays"), (0, u "copyOfRange"), (0, u "([BII)[B"), (11, u "([B)V"), (2, u "atEnd"), (0, u "()Z"), (3, u "bytes"), (0, u "(J)[B"), (2, u "rest"), (0, u "()[B")] 5

def k2c0 : Code := { maxStack := 2, maxLocals := 2, code := prog_102_method_1_code, exceptionTable := #[], attributes := #[] }
def k2m0 : Method := { name := "<init>", desc := "([B)V", sig := { parameters := [(.array .byte)], returnType := none }, accessFlags := 0, code := some k2c0 }
def k2c1 : Code := { maxStack := 2, maxLocals := 1, code := prog_102_method_2_code, exceptionTable := #[], attributes := #[] }
def k2m1 : Method := { name := "atEnd", desc := "()Z", sig := { parameters := [], returnType := some .boolean }, accessFlags := 0, code := some k2c1 }
def k2c2 : Code := { maxStack := 5, maxLocals := 1, code := prog_102_method_3_code, exceptionTable := #[], attributes := #[] }
def k2m2 : Method := { name := "int1", desc := "()I", sig := { parameters := [], returnType := some .int }, accessFlags := 0, code := some k2c2 }
def k2c3 : Code := { maxStack := 5, maxLocals := 4, code := prog_102_method_8_code, exceptionTable := #[], attributes := #[] }
def k2m3 : Method := { name := "bytes", desc := "(J)[B", sig := { parameters := [.long], returnType := some (.array .byte) }, accessFlags := 0, code := some k2c3 }
def k2c4 : Code := { maxStack := 3, maxLocals := 2, code := prog_102_method_10_code, exceptionTable := #[], attributes := #[] }
def k2m4 : Method := { name := "rest", desc := "()[B", sig := { parameters := [], returnType := some (.array .byte) }, accessFlags := 0, code := some k2c4 }
def k2c5 : Code := { maxStack := 2, maxLocals := 2, code := prog_102_method_11_code, exceptionTable := #[], attributes := #[] }
def k2m5 : Method := { name := "require", desc := "(I)V", sig := { parameters := [.int], returnType := none }, accessFlags := 2, code := some k2c5 }
/-- com/example/shardwell/shardwell/PayloadReader -/
def k2 : Class := { plain "com/example/shardwell/shardwell/PayloadReader" (some 0) with
  accessFlags := 48
  interfaces := #[]
  cf := some (fileOf pool2 8 #[.nestMembers #[37]] #[{ accessFlags := 0, nameIndex := 5, descriptorIndex := 57, attributes := #[] }, { accessFlags := 0, nameIndex := 60, descriptorIndex := 61, attributes := #[] }, { accessFlags := 0, nameIndex := 23, descriptorIndex := 24, attributes := #[] }, { accessFlags := 0, nameIndex := 65, descriptorIndex := 66, attributes := #[] }, { accessFlags := 0, nameIndex := 69, descriptorIndex := 70, attributes := #[] }, { accessFlags := 2, nameIndex := 19, descriptorIndex := 20, attributes := #[] }] 48 2 #[] #[{ accessFlags := 18, nameIndex := 11, descriptorIndex := 12, attributes := #[] }, { accessFlags := 2, nameIndex := 15, descriptorIndex := 16, attributes := #[] }])
  fields := #[{ name := "payload", type := (.array .byte), accessFlags := 18, slot := 0, constantValue := 0 }, { name := "position", type := .int, accessFlags := 2, slot := 1, constantValue := 0 }]
  methods := #[k2m0, k2m1, k2m2, k2m3, k2m4, k2m5]
  instanceTypes := #[(.array .byte), .int]
  staticTypes := #[]
  resolved := Array.replicate 76 none
  statics := none }

def pool3 : Array CpInfo := pool [(2, .class_ 4), (1, u "java/lang/Object"), (0, u "<init>"), (0, u "()V"), (7, .class_ 16), (1, u "java/util/Arrays"), (57, .class_ 76), (1, u "java/util/Arrays$NaturalOrder"), (32, u "()Ljava/lang/Object;"), (3, .class_ 115), (1, u "java/util/Arrays$LegacyMergeSort"), (1, u "Z"), (10, .nameAndType 129 109), (0, u "clone"), (9, u "copyOfRange"), (10, .methodref 151 152), (0, .class_ 153), (0, .nameAndType 154 155), (0, u "java/lang/System"), (0, u "arraycopy"), (0, u "(Ljava/lang/Object;ILjava/lang/Object;II)V"), (148, .methodref 305 306), (0, .class_ 307), (0, .nameAndType 308 309), (0, u "java/lang/Math"), (0, u "min"), (0, u "(II)I"), (0, .methodref 311 128), (0, .class_ 312), (0, u "[B"), (26, .methodref 14 340), (0, .nameAndType 341 342), (0, u "copyOfRangeByte"), (0, u "([BII)[B"), (0, .methodref 14 344), (0, .nameAndType 345 346), (0, u "checkLength"), (0, u "(II)V"), (28, .class_ 376), (0, u "java/util/Arrays$ArrayList"), (68, u "$assertionsDisabled"), (269, u "MIN_ARRAY_SORT_GRAN"), (0, u "I"), (2, u "INSERTIONSORT_THRESHOLD"), (255, .class_ 976), (0, u "java/util/Arrays$ArrayItr")] 52

def k3m0 : Method := { name := "<init>", desc := "()V", sig := { parameters := [], returnType := none }, accessFlags := 2, code := none }
def k3c1 : Code := { maxStack := 4, maxLocals := 2, code := jdk_65_method_131_code, exceptionTable := #[], attributes := #[] }
def k3m1 : Method := { name := "checkLength", desc := "(II)V", sig := { parameters := [.int, .int], returnType := none }, accessFlags := 10, code := some k3c1 }
def k3c2 : Code := { maxStack := 3, maxLocals := 3, code := jdk_65_method_132_code, exceptionTable := #[], attributes := #[] }
def k3m2 : Method := { name := "copyOfRange", desc := "([BII)[B", sig := { parameters := [(.array .byte), .int, .int], returnType := some (.array .byte) }, accessFlags := 9, code := some k3c2 }
def k3c3 : Code := { maxStack := 6, maxLocals := 5, code := jdk_65_method_133_code, exceptionTable := #[], attributes := #[] }
def k3m3 : Method := { name := "copyOfRangeByte", desc := "([BII)[B", sig := { parameters := [(.array .byte), .int, .int], returnType := some (.array .byte) }, accessFlags := 10, code := some k3c3 }
/-- java/util/Arrays -/
def k3 : Class := { plain "java/util/Arrays" (some 0) with
  accessFlags := 49
  interfaces := #[]
  cf := some (fileOf pool3 14 #[.nestMembers #[975, 375, 113, 74]] #[{ accessFlags := 2, nameIndex := 5, descriptorIndex := 6, attributes := #[] }, { accessFlags := 10, nameIndex := 345, descriptorIndex := 346, attributes := #[] }, { accessFlags := 9, nameIndex := 139, descriptorIndex := 342, attributes := #[] }, { accessFlags := 10, nameIndex := 341, descriptorIndex := 342, attributes := #[] }] 49 2 #[] #[{ accessFlags := 26, nameIndex := 715, descriptorIndex := 716, attributes := #[] }, { accessFlags := 26, nameIndex := 719, descriptorIndex := 716, attributes := #[] }, { accessFlags := 4120, nameIndex := 445, descriptorIndex := 117, attributes := #[] }])
  fields := #[{ name := "MIN_ARRAY_SORT_GRAN", type := .int, accessFlags := 26, slot := 0, constantValue := 0 }, { name := "INSERTIONSORT_THRESHOLD", type := .int, accessFlags := 26, slot := 1, constantValue := 0 }, { name := "$assertionsDisabled", type := .boolean, accessFlags := 4120, slot := 2, constantValue := 0 }]
  methods := #[k3m0, k3m1, k3m2, k3m3]
  instanceTypes := #[]
  staticTypes := #[.int, .int, .boolean]
  resolved := Array.replicate 1029 none
  statics := none }

def pool4 : Array CpInfo := pool [(1, .class_ 2), (0, u "java/lang/Cloneable"), (0, .class_ 4), (0, u "java/lang/Object")] 2

/-- java/lang/Cloneable -/
def k4 : Class := { plain "java/lang/Cloneable" (some 0) with
  accessFlags := 1537
  interfaces := #[]
  cf := some (fileOf pool4 1 #[] #[] 1537 3 #[] #[])
  fields := #[]
  methods := #[]
  instanceTypes := #[]
  staticTypes := #[]
  resolved := Array.replicate 7 none
  statics := none }

def pool5 : Array CpInfo := pool [(1, .class_ 2), (0, u "java/lang/Math"), (1, .class_ 6), (1, u "java/lang/Object"), (0, u "<init>"), (0, u "()V"), (89, .class_ 100), (1, u "java/lang/Math$RandomNumberGeneratorHolder"), (71, u "negativeZeroFloatBits"), (0, u "J"), (2, u "negativeZeroDoubleBits"), (24, u "min"), (43, u "$assertionsDisabled"), (0, u "Z"), (88, u "(II)I"), (2, u "twoToTheDoubleScaleDown"), (0, u "D"), (4, u "twoToTheDoubleScaleUp"), (9, u "E"), (3, u "PI"), (2, u "TAU"), (2, u "DEGREES_TO_RADIANS"), (0, u "RADIANS_TO_DEGREES")] 94

def k5m0 : Method := { name := "<init>", desc := "()V", sig := { parameters := [], returnType := none }, accessFlags := 2, code := none }
def k5c1 : Code := { maxStack := 2, maxLocals := 2, code := jdk_29_method_69_code, exceptionTable := #[], attributes := #[] }
def k5m1 : Method := { name := "min", desc := "(II)I", sig := { parameters := [.int, .int], returnType := some .int }, accessFlags := 9, code := some k5c1 }
/-- java/lang/Math -/
def k5 : Class := { plain "java/lang/Math" (some 0) with
  accessFlags := 49
  interfaces := #[]
  cf := some (fileOf pool5 1 #[.nestMembers #[98]] #[{ accessFlags := 2, nameIndex := 7, descriptorIndex := 8, attributes := #[] }, { accessFlags := 9, nameIndex := 201, descriptorIndex := 335, attributes := #[] }] 49 4 #[] #[{ accessFlags := 25, nameIndex := 354, descriptorIndex := 339, attributes := #[] }, { accessFlags := 25, nameIndex := 358, descriptorIndex := 339, attributes := #[] }, { accessFlags := 25, nameIndex := 361, descriptorIndex := 339, attributes := #[] }, { accessFlags := 26, nameIndex := 364, descriptorIndex := 339, attributes := #[] }, { accessFlags := 26, nameIndex := 365, descriptorIndex := 339, attributes := #[] }, { accessFlags := 26, nameIndex := 172, descriptorIndex := 173, attributes := #[] }, { accessFlags := 26, nameIndex := 176, descriptorIndex := 173, attributes := #[] }, { accessFlags := 8, nameIndex := 344, descriptorIndex := 339, attributes := #[] }, { accessFlags := 8, nameIndex := 338, descriptorIndex := 339, attributes := #[] }, { accessFlags := 4120, nameIndex := 245, descriptorIndex := 246, attributes := #[] }])
  fields := #[{ name := "E", type := .double, accessFlags := 25, slot := 0, constantValue := 0 }, { name := "PI", type := .double, accessFlags := 25, slot := 1, constantValue := 0 }, { name := "TAU", type := .double, accessFlags := 25, slot := 2, constantValue := 0 }, { name := "DEGREES_TO_RADIANS", type := .double, accessFlags := 26, slot := 3, constantValue := 0 }, { name := "RADIANS_TO_DEGREES", type := .double, accessFlags := 26, slot := 4, constantValue := 0 }, { name := "negativeZeroFloatBits", type := .long, accessFlags := 26, slot := 5, constantValue := 0 }, { name := "negativeZeroDoubleBits", type := .long, accessFlags := 26, slot := 6, constantValue := 0 }, { name := "twoToTheDoubleScaleUp", type := .double, accessFlags := 8, slot := 7, constantValue := 0 }, { name := "twoToTheDoubleScaleDown", type := .double, accessFlags := 8, slot := 8, constantValue := 0 }, { name := "$assertionsDisabled", type := .boolean, accessFlags := 4120, slot := 9, constantValue := 0 }]
  methods := #[k5m0, k5m1]
  instanceTypes := #[]
  staticTypes := #[.double, .double, .double, .double, .double, .long, .long, .double, .double, .boolean]
  resolved := Array.replicate 460 none
  statics := none }

def pool6 : Array CpInfo := pool [(2, .class_ 4), (1, u "java/lang/Object"), (0, u "<init>"), (0, u "()V"), (1, .class_ 10), (1, u "java/lang/System"), (0, u "allowSecurityManager"), (0, u "I"), (16, u "cons"), (0, u "Ljava/io/Console;"), (77, .class_ 110), (1, u "java/lang/System$CallersHolder"), (43, u "initialErrStream"), (0, u "Ljava/io/PrintStream;"), (19, u "security"), (0, u "Ljava/lang/SecurityManager;"), (31, .class_ 209), (0, u "java/lang/System$1"), (7, u "props"), (0, u "Ljava/util/Properties;"), (2, u "lineSeparator"), (0, u "Ljava/lang/String;"), (96, .class_ 321), (1, u "java/lang/System$LoggerFinder"), (5, .class_ 328), (0, u "java/lang/System$Logger"), (67, u "err"), (2, u "out"), (91, u "notSupportedJnuEncoding"), (15, u "in"), (17, u "initialIn"), (0, u "Ljava/io/InputStream;"), (35, u "bootLayer"), (0, u "Ljava/lang/ModuleLayer;"), (99, .class_ 664), (0, u "java/lang/System$2"), (9, u "NEVER"), (2, u "MAYBE"), (49, u "arraycopy"), (0, u "(Ljava/lang/Object;ILjava/lang/Object;II)V"), (72, .class_ 802), (0, u "java/lang/System$Logger$Level")] 31

def k6m0 : Method := { name := "<init>", desc := "()V", sig := { parameters := [], returnType := none }, accessFlags := 2, code := none }
def k6m1 : Method := { name := "arraycopy", desc := "(Ljava/lang/Object;ILjava/lang/Object;II)V", sig := { parameters := [(.object "java/lang/Object"), .int, (.object "java/lang/Object"), .int, .int], returnType := none }, accessFlags := 265, code := none }
/-- java/lang/System -/
def k6 : Class := { plain "java/lang/System" (some 0) with
  accessFlags := 49
  interfaces := #[]
  cf := some (fileOf pool6 8 #[.nestMembers #[319, 327, 801, 108, 663, 208]] #[{ accessFlags := 2, nameIndex := 5, descriptorIndex := 6, attributes := #[] }, { accessFlags := 265, nameIndex := 727, descriptorIndex := 728, attributes := #[] }] 49 2 #[] #[{ accessFlags := 25, nameIndex := 507, descriptorIndex := 526, attributes := #[] }, { accessFlags := 25, nameIndex := 399, descriptorIndex := 155, attributes := #[] }, { accessFlags := 25, nameIndex := 396, descriptorIndex := 155, attributes := #[] }, { accessFlags := 10, nameIndex := 525, descriptorIndex := 526, attributes := #[] }, { accessFlags := 26, nameIndex := 674, descriptorIndex := 12, attributes := #[] }, { accessFlags := 26, nameIndex := 677, descriptorIndex := 12, attributes := #[] }, { accessFlags := 10, nameIndex := 11, descriptorIndex := 12, attributes := #[] }, { accessFlags := 74, nameIndex := 175, descriptorIndex := 176, attributes := #[] }, { accessFlags := 10, nameIndex := 491, descriptorIndex := 222, attributes := #[] }, { accessFlags := 74, nameIndex := 29, descriptorIndex := 30, attributes := #[] }, { accessFlags := 74, nameIndex := 154, descriptorIndex := 155, attributes := #[] }, { accessFlags := 10, nameIndex := 217, descriptorIndex := 218, attributes := #[] }, { accessFlags := 10, nameIndex := 221, descriptorIndex := 222, attributes := #[] }, { accessFlags := 8, nameIndex := 562, descriptorIndex := 563, attributes := #[] }])
  fields := #[{ name := "in", type := (.object "java/io/InputStream"), accessFlags := 25, slot := 0, constantValue := 0 }, { name := "out", type := (.object "java/io/PrintStream"), accessFlags := 25, slot := 1, constantValue := 0 }, { name := "err", type := (.object "java/io/PrintStream"), accessFlags := 25, slot := 2, constantValue := 0 }, { name := "initialIn", type := (.object "java/io/InputStream"), accessFlags := 10, slot := 3, constantValue := 0 }, { name := "NEVER", type := .int, accessFlags := 26, slot := 4, constantValue := 0 }, { name := "MAYBE", type := .int, accessFlags := 26, slot := 5, constantValue := 0 }, { name := "allowSecurityManager", type := .int, accessFlags := 10, slot := 6, constantValue := 0 }, { name := "security", type := (.object "java/lang/SecurityManager"), accessFlags := 74, slot := 7, constantValue := 0 }, { name := "notSupportedJnuEncoding", type := (.object "java/lang/String"), accessFlags := 10, slot := 8, constantValue := 0 }, { name := "cons", type := (.object "java/io/Console"), accessFlags := 74, slot := 9, constantValue := 0 }, { name := "initialErrStream", type := (.object "java/io/PrintStream"), accessFlags := 74, slot := 10, constantValue := 0 }, { name := "props", type := (.object "java/util/Properties"), accessFlags := 10, slot := 11, constantValue := 0 }, { name := "lineSeparator", type := (.object "java/lang/String"), accessFlags := 10, slot := 12, constantValue := 0 }, { name := "bootLayer", type := (.object "java/lang/ModuleLayer"), accessFlags := 8, slot := 13, constantValue := 0 }]
  methods := #[k6m0, k6m1]
  instanceTypes := #[]
  staticTypes := #[(.object "java/io/InputStream"), (.object "java/io/PrintStream"), (.object "java/io/PrintStream"), (.object "java/io/InputStream"), .int, .int, .int, (.object "java/lang/SecurityManager"), (.object "java/lang/String"), (.object "java/io/Console"), (.object "java/io/PrintStream"), (.object "java/util/Properties"), (.object "java/lang/String"), (.object "java/lang/ModuleLayer")]
  resolved := Array.replicate 834 none
  statics := none }

def pool7 : Array CpInfo := pool [(1, u "java/io/Serializable"), (0, .class_ 1), (0, u "java/lang/Object"), (0, .class_ 3)] 3

/-- java/io/Serializable -/
def k7 : Class := { plain "java/io/Serializable" (some 0) with
  accessFlags := 1537
  interfaces := #[]
  cf := some (fileOf pool7 2 #[] #[] 1537 4 #[] #[])
  fields := #[]
  methods := #[]
  instanceTypes := #[]
  staticTypes := #[]
  resolved := Array.replicate 8 none
  statics := none }

/-- the primitive byte -/
def k8 : Class := { plain "byte" none with kind := .primitive 'B', accessFlags := 0x411 }
/-- [B -/
def k9 : Class := { plain "[B" (some 0) with kind := .array 8 .byte, interfaces := #[4, 7], accessFlags := 1041 }

/-- the primitive int -/
def k10 : Class := { plain "int" none with kind := .primitive 'I', accessFlags := 0x411 }
/-- [I -/
def k11 : Class := { plain "[I" (some 0) with kind := .array 10 .int, interfaces := #[4, 7], accessFlags := 1041 }

def heap : Heap := #[]
def classes : Array Class := #[k0, k1, k2, k3, k4, k5, k6, k7, k8, k9, k10, k11]
def interned : List (Array UInt16 × Addr) := []
def slotsUsed : Nat := 0
def theMethod : MethodId := ⟨1, 1⟩
def args0 : Array Value := #[.int 5, .int 300]
def aboutOver (below : List Frame) : State where
  vm := { classes := classes, interned := interned.toArray }
  heap := heap
  slotsUsed := slotsUsed
  threads := #[{ frames := .invoking theMethod args0 :: below }]
def below0 : List Frame := [.native { method := ⟨0, 0⟩, args := #[] }]
def about1 : State := aboutOver below0
def p0 : Program := .bare "" "" ""
def e0 : Env := launch0.env 0 0 0
theorem w_frames : about1.frames = Frame.invoking theMethod args0 :: below0 := rfl
set_option maxRecDepth 65536 in
theorem w_args : argsFit about1.vm theMethod args0 = true := by decide +kernel
set_option maxRecDepth 65536 in
theorem w_heap : heapFits about1 = true := by decide +kernel
set_option maxRecDepth 65536 in
theorem w_runnable : about1.curStatus? = some .runnable := by decide +kernel
set_option maxRecDepth 65536 in
theorem w_alone : about1.alone = true := by decide +kernel
set_option maxRecDepth 65536 in
theorem w_named : about1.methodNamed? x = some theMethod := by decide +kernel
set_option maxRecDepth 65536 in
theorem w_hears : about1.hears theMethod below0 = true := by decide +kernel
set_option maxRecDepth 65536 in
theorem w_ripe : about1.ripe theMethod args0 below0 = true := by decide +kernel
theorem w_running : about1.status = .running := rfl
set_option maxRecDepth 65536 in
theorem w_room : about1.hasRoom e0.platform room_1 = true :=
  launch0.hasRoom_least _ room_1 (by decide +kernel) (by decide +kernel) (by decide +kernel) (by decide +kernel) (by decide +kernel) (by decide +kernel)
theorem allAtoms_all (ts : List Jvm.Cond) (a : Array Jvm.Value) (st : Jvm.State) : (allAtoms ts).before a st = ts.all (fun c => c.before a st) := by
  induction ts with
  | nil => rfl
  | cons c t ih =>
    show (Jvm.Cond.and c (allAtoms t)).before a st = _
    rw [Jvm.Cond.before_and, ih, List.all_cons]
def words1 : List Jvm.Cond := Jvm.Cond.code x code maxLocals ret :: tables_1
/-- a 'code' word, met by the world's own term for the bytes: nothing is compared byte by byte -/
theorem code_word {y : MethodName} {bytes : ByteArray} {mx : Nat} {rt : Option FieldType} {a : Array Value} {s : State} {m : MethodId} {meth : Method} {c : Code} (h1 : s.methodNamed? y = some m) (h2 : s.vm.method? m = some meth) (h3 : meth.code = some c) (h4 : c.code = bytes)
    (h5 : (c.maxLocals == mx && c.exceptionTable.isEmpty && decide (c.maxStack ≤ mostOperands) && decide (meth.sig.returnType = rt) && !meth.locks && decide (parseMethodDescriptor y.desc = some meth.sig)) = true) : (Jvm.Cond.code y bytes mx rt).before a s = true := by
  simp only [Bool.and_eq_true, beq_iff_eq, Bool.not_eq_true', decide_eq_true_eq] at h5
  obtain ⟨⟨⟨⟨⟨g1, g2⟩, g3⟩, g4⟩, g5⟩, g6⟩ := h5
  simp [Cond.before, Cond.holds, Cond.value, h1, h2, h3, h4, g1, g2, g3, g4, g5, g6]
def isCode : Jvm.Cond → Bool
  | .code _ _ _ _ => true
  | _ => false
theorem all_split {L : List Jvm.Cond} {P : Jvm.Cond → Bool} (h1 : L.all (fun c => isCode c || P c) = true) (h2 : ∀ c ∈ L.filter isCode, P c = true) : L.all P = true := by
  refine List.all_eq_true.mpr fun c hc => ?_
  have h := List.all_eq_true.mp h1 c hc
  rcases Bool.eq_false_or_eq_true (isCode c) with hi | hi
  · exact h2 c (List.mem_filter.mpr ⟨hc, hi⟩)
  · simpa [hi] using h
set_option maxRecDepth 65536 in
theorem w_c0 : (Jvm.Cond.code x code maxLocals ret).before args0 about1 = true := code_word (m := ⟨1, 1⟩) (meth := k1m1) (c := k1c1) (by decide +kernel) rfl rfl rfl (by decide +kernel)
set_option maxRecDepth 65536 in
theorem w_c1 : (Jvm.Cond.code ({ cls := "com/example/shardwell/shardwell/PayloadReader", name := "<init>", desc := "([B)V" } : Jvm.MethodName) prog_102_method_1_code (2 : Nat) (Option.none : Option Jvm.ClassFile.FieldType)).before args0 about1 = true := code_word (m := ⟨2, 0⟩) (meth := k2m0) (c := k2c0) (by decide +kernel) rfl rfl rfl (by decide +kernel)
set_option maxRecDepth 65536 in
theorem w_c2 : (Jvm.Cond.code ({ cls := "java/lang/Object", name := "<init>", desc := "()V" } : Jvm.MethodName) object_method_1_code (1 : Nat) (Option.none : Option Jvm.ClassFile.FieldType)).before args0 about1 = true := code_word (m := ⟨0, 0⟩) (meth := k0m0) (c := k0c0) (by decide +kernel) rfl rfl rfl (by decide +kernel)
set_option maxRecDepth 65536 in
theorem w_c3 : (Jvm.Cond.code ({ cls := "com/example/shardwell/shardwell/PayloadReader", name := "atEnd", desc := "()Z" } : Jvm.MethodName) prog_102_method_2_code (1 : Nat) (Option.some Jvm.ClassFile.FieldType.boolean)).before args0 about1 = true := code_word (m := ⟨2, 1⟩) (meth := k2m1) (c := k2c1) (by decide +kernel) rfl rfl rfl (by decide +kernel)
set_option maxRecDepth 65536 in
theorem w_c4 : (Jvm.Cond.code ({ cls := "com/example/shardwell/shardwell/PayloadReader", name := "bytes", desc := "(J)[B" } : Jvm.MethodName) prog_102_method_8_code (4 : Nat) (Option.some (Jvm.ClassFile.FieldType.array Jvm.ClassFile.FieldType.byte))).before args0 about1 = true := code_word (m := ⟨2, 3⟩) (meth := k2m3) (c := k2c3) (by decide +kernel) rfl rfl rfl (by decide +kernel)
set_option maxRecDepth 65536 in
theorem w_c5 : (Jvm.Cond.code ({ cls := "java/util/Arrays", name := "copyOfRange", desc := "([BII)[B" } : Jvm.MethodName) jdk_65_method_132_code (3 : Nat) (Option.some (Jvm.ClassFile.FieldType.array Jvm.ClassFile.FieldType.byte))).before args0 about1 = true := code_word (m := ⟨3, 2⟩) (meth := k3m2) (c := k3c2) (by decide +kernel) rfl rfl rfl (by decide +kernel)
set_option maxRecDepth 65536 in
theorem w_c6 : (Jvm.Cond.code ({ cls := "com/example/shardwell/shardwell/PayloadReader", name := "rest", desc := "()[B" } : Jvm.MethodName) prog_102_method_10_code (2 : Nat) (Option.some (Jvm.ClassFile.FieldType.array Jvm.ClassFile.FieldType.byte))).before args0 about1 = true := code_word (m := ⟨2, 4⟩) (meth := k2m4) (c := k2c4) (by decide +kernel) rfl rfl rfl (by decide +kernel)
set_option maxRecDepth 65536 in
theorem w_c7 : (Jvm.Cond.code ({ cls := "java/util/Arrays", name := "copyOfRangeByte", desc := "([BII)[B" } : Jvm.MethodName) jdk_65_method_133_code (5 : Nat) (Option.some (Jvm.ClassFile.FieldType.array Jvm.ClassFile.FieldType.byte))).before args0 about1 = true := code_word (m := ⟨3, 3⟩) (meth := k3m3) (c := k3c3) (by decide +kernel) rfl rfl rfl (by decide +kernel)
set_option maxRecDepth 65536 in
theorem w_c8 : (Jvm.Cond.code ({ cls := "java/util/Arrays", name := "checkLength", desc := "(II)V" } : Jvm.MethodName) jdk_65_method_131_code (2 : Nat) (Option.none : Option Jvm.ClassFile.FieldType)).before args0 about1 = true := code_word (m := ⟨3, 1⟩) (meth := k3m1) (c := k3c1) (by decide +kernel) rfl rfl rfl (by decide +kernel)
set_option maxRecDepth 65536 in
theorem w_c9 : (Jvm.Cond.code ({ cls := "java/lang/Math", name := "min", desc := "(II)I" } : Jvm.MethodName) jdk_29_method_69_code (2 : Nat) (Option.some Jvm.ClassFile.FieldType.int)).before args0 about1 = true := code_word (m := ⟨5, 1⟩) (meth := k5m1) (c := k5c1) (by decide +kernel) rfl rfl rfl (by decide +kernel)
set_option maxRecDepth 65536 in
theorem w_c10 : (Jvm.Cond.code ({ cls := "com/example/shardwell/shardwell/PayloadReader", name := "int1", desc := "()I" } : Jvm.MethodName) prog_102_method_3_code (1 : Nat) (Option.some Jvm.ClassFile.FieldType.int)).before args0 about1 = true := code_word (m := ⟨2, 2⟩) (meth := k2m2) (c := k2c2) (by decide +kernel) rfl rfl rfl (by decide +kernel)
set_option maxRecDepth 65536 in
theorem w_c11 : (Jvm.Cond.code ({ cls := "com/example/shardwell/shardwell/PayloadReader", name := "require", desc := "(I)V" } : Jvm.MethodName) prog_102_method_11_code (2 : Nat) (Option.none : Option Jvm.ClassFile.FieldType)).before args0 about1 = true := code_word (m := ⟨2, 5⟩) (meth := k2m5) (c := k2c5) (by decide +kernel) rfl rfl rfl (by decide +kernel)
def codes1 : List Jvm.Cond := [Jvm.Cond.code x code maxLocals ret, Jvm.Cond.code ({ cls := "com/example/shardwell/shardwell/PayloadReader", name := "<init>", desc := "([B)V" } : Jvm.MethodName) prog_102_method_1_code (2 : Nat) (Option.none : Option Jvm.ClassFile.FieldType), Jvm.Cond.code ({ cls := "java/lang/Object", name := "<init>", desc := "()V" } : Jvm.MethodName) object_method_1_code (1 : Nat) (Option.none : Option Jvm.ClassFile.FieldType), Jvm.Cond.code ({ cls := "com/example/shardwell/shardwell/PayloadReader", name := "atEnd", desc := "()Z" } : Jvm.MethodName) prog_102_method_2_code (1 : Nat) (Option.some Jvm.ClassFile.FieldType.boolean), Jvm.Cond.code ({ cls := "com/example/shardwell/shardwell/PayloadReader", name := "bytes", desc := "(J)[B" } : Jvm.MethodName) prog_102_method_8_code (4 : Nat) (Option.some (Jvm.ClassFile.FieldType.array Jvm.ClassFile.FieldType.byte)), Jvm.Cond.code ({ cls := "java/util/Arrays", name := "copyOfRange", desc := "([BII)[B" } : Jvm.MethodName) jdk_65_method_132_code (3 : Nat) (Option.some (Jvm.ClassFile.FieldType.array Jvm.ClassFile.FieldType.byte)), Jvm.Cond.code ({ cls := "com/example/shardwell/shardwell/PayloadReader", name := "rest", desc := "()[B" } : Jvm.MethodName) prog_102_method_10_code (2 : Nat) (Option.some (Jvm.ClassFile.FieldType.array Jvm.ClassFile.FieldType.byte)), Jvm.Cond.code ({ cls := "java/util/Arrays", name := "copyOfRangeByte", desc := "([BII)[B" } : Jvm.MethodName) jdk_65_method_133_code (5 : Nat) (Option.some (Jvm.ClassFile.FieldType.array Jvm.ClassFile.FieldType.byte)), Jvm.Cond.code ({ cls := "java/util/Arrays", name := "checkLength", desc := "(II)V" } : Jvm.MethodName) jdk_65_method_131_code (2 : Nat) (Option.none : Option Jvm.ClassFile.FieldType), Jvm.Cond.code ({ cls := "java/lang/Math", name := "min", desc := "(II)I" } : Jvm.MethodName) jdk_29_method_69_code (2 : Nat) (Option.some Jvm.ClassFile.FieldType.int), Jvm.Cond.code ({ cls := "com/example/shardwell/shardwell/PayloadReader", name := "int1", desc := "()I" } : Jvm.MethodName) prog_102_method_3_code (1 : Nat) (Option.some Jvm.ClassFile.FieldType.int), Jvm.Cond.code ({ cls := "com/example/shardwell/shardwell/PayloadReader", name := "require", desc := "(I)V" } : Jvm.MethodName) prog_102_method_11_code (2 : Nat) (Option.none : Option Jvm.ClassFile.FieldType)]
set_option maxRecDepth 65536 in
theorem codes_eq : words1.filter isCode = codes1 := rfl
theorem w_codes : ∀ c ∈ words1.filter isCode, c.before args0 about1 = true := by
  rw [codes_eq]
  intro c hc
  simp only [codes1, List.mem_cons, List.not_mem_nil, or_false] at hc
  rcases hc with rfl | rfl | rfl | rfl | rfl | rfl | rfl | rfl | rfl | rfl | rfl | rfl
  · exact w_c0
  · exact w_c1
  · exact w_c2
  · exact w_c3
  · exact w_c4
  · exact w_c5
  · exact w_c6
  · exact w_c7
  · exact w_c8
  · exact w_c9
  · exact w_c10
  · exact w_c11
set_option maxRecDepth 65536 in
theorem w_t1 : (words1.take 24).all (fun c => isCode c || c.before args0 about1) = true := by decide +kernel
set_option maxRecDepth 65536 in
theorem w_t2 : ((words1.drop 24).take 24).all (fun c => isCode c || c.before args0 about1) = true := by decide +kernel
set_option maxRecDepth 65536 in
theorem w_t3 : ((words1.drop 24).drop 24).all (fun c => isCode c || c.before args0 about1) = true := by decide +kernel
theorem w_tables : (allAtoms (Jvm.Cond.code x code maxLocals ret :: tables_1)).before args0 about1 = true := by
  rw [allAtoms_all]
  show words1.all (fun c => c.before args0 about1) = true
  refine all_split ?_ w_codes
  rw [← List.take_append_drop 24 words1, List.all_append, w_t1, ← List.take_append_drop 24 (words1.drop 24), List.all_append, w_t2, w_t3]
  rfl
set_option maxRecDepth 65536 in
theorem w_case : (Jvm.Cond.and given_1 narrow_1).before args0 about1 = true := by decide +kernel
theorem w_applies : (headSpec (Jvm.Cond.code x code maxLocals ret :: tables_1) room_1).applies x e0.platform about1 = true :=
  (Spec.applies_iff w_frames).mpr ⟨w_running, w_runnable, w_alone, w_named, w_hears, w_ripe, w_room, w_tables⟩
theorem atStart : AtStart classFile x code maxLocals ret World_1 tables_1 room_1 Calls_1 rest_1 Pre_1 launch0 p0 e0 about1 theMethod args0 below0 :=
  ⟨lists_1, trivial, launch0.admits_env _ _ _, launch0.least_env, fairChoices_fair.cas, fairChoices_fair.clock, w_frames, w_args, w_heap, w_applies, trivial, trivial, w_case⟩
end start1
theorem witness_1 : WitnessClaimed_1 := ⟨start1.p0, start1.e0, start1.about1, start1.theMethod, start1.args0, start1.below0, start1.atStart⟩
end Jvm.Pilot.@@N@@
