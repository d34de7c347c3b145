import JvmDerived
import JvmDerived.Pilot.@@N@@Statement
import JvmDerived.Pilot.@@N@@Code
set_option linter.unusedVariables false
set_option linter.unusedSimpArgs false
namespace Jvm.Pilot.@@N@@
open Jvm Jvm.ClassFile Sem Op Lib Jvm.Free Jvm.Stand Jvm.LawKit Jvm.RoadKit Bundle Jvm.Pilot.@@N@@.Jvm.D
namespace Ow
/-! A small logic of walks: Wq says: from every state that stands at pc with these locals, this stack and this heap, the body runs to its end and Post holds there. -/
def Cx (l : Launch) (nw : Bool) (Z : State) (EL : List (String × Nat)) (a0 : Array Value) (n0 : Nat) (y : MethodName) (B : ByteArray) (ml : Nat) (ret : Option FieldType) (R : Room) (h0 : Heap) (fs : List Addr) (h : Heap) (ce sl : Nat)
    (p : Program) (e : Env) (s : State) (m : MethodId) (args : Array Value) (below : List Frame) (meth : Method) (c : Code) (T : State) (locs : List Loc) (vm : Vm) (k : Nat) : Prop :=
  (p.tables.exec = Jvm.exec ∧ c.code = B ∧ c.maxLocals = ml ∧ meth.sig.returnType = ret ∧ meth.locks = false ∧ meth.name = y.name ∧ vm.findClass y.cls = some m.cls ∧ s.heap = h0) ∧
  (Z.Warmed39 vm ∧ (∀ d ∈ tables_1, d.before a0 Z = true) ∧ EW Z a0 EL ∧ (nw = true → vm = s.vm ∧ EL = [])) ∧
  Stand p l e R (s.setVm vm) m args below meth c T locs ce sl ∧ T.heap = h ∧ (Fr n0 locs ∧ Old Z n0 h) ∧ (s.Since vm k ∧ k ≤ h.size) ∧ CHr Z EL s.vm h0 vm h ∧ ∀ x ∈ fs, n0 ≤ x ∧ x < h.size ∧ Safe Z EL vm h x
def Fn (nw : Bool) (Z : State) (EL : List (String × Nat)) (n0 : Nat) (R : Room) (h0 : Heap) (Post : Option Value → Heap → Prop) (p : Program) (e : Env) (s : State) (below : List Frame) (t : State) : Prop :=
  ∃ s₂ o, Steps p.tables e below t s₂ ∧ s₂.status = .running ∧ Ended s₂ below o ∧ ∃ v L, o = .returned v ∧ Post v s₂.heap ∧ (Fr n0 L ∧ Old Z n0 s₂.heap) ∧ CHr Z EL s.vm h0 s₂.vm s₂.heap ∧ ReturnedEndW s o s₂ L R.cells R.slots ∧ (nw = true → s.WarmedH s₂.vm)
def Wq (l : Launch) (nw : Bool) (Z : State) (EL : List (String × Nat)) (a0 : Array Value) (n0 : Nat) (y : MethodName) (B : ByteArray) (ml : Nat) (ret : Option FieldType) (R : Room) (h0 : Heap) (Post : Option Value → Heap → Prop) (fs : List Addr) (h : Heap) (ce sl pc : Nat) (L : Array Slot) (S : List Value) : Prop :=
  ∀ (p : Program) (e : Env) (s : State) (m : MethodId) (args : Array Value) (below : List Frame) (meth : Method) (c : Code) (T : State) (locs : List Loc) (vm : Vm) (k : Nat),
    Cx l nw Z EL a0 n0 y B ml ret R h0 fs h ce sl p e s m args below meth c T locs vm k → Fn nw Z EL n0 R h0 Post p e s below (T.setTop (mkF m pc L S))
section Rules
variable {l : Launch} {nw : Bool} {Z : State} {EL : List (String × Nat)} {a0 : Array Value} {n0 : Nat} {y : MethodName} {B : ByteArray} {ml : Nat} {ret : Option FieldType} {R : Room} {h0 : Heap} {Post : Option Value → Heap → Prop} {fs : List Addr} {h : Heap} {ce sl pc pc' : Nat} {L : Array Slot} {S : List Value}
theorem Fn.st {p : Program} {e : Env} {s : State} {below : List Frame} {t t' : State} (st : ∀ u, Steps p.tables e below t' u → Steps p.tables e below t u) (K : Fn nw Z EL n0 R h0 Post p e s below t') : Fn nw Z EL n0 R h0 Post p e s below t := by
  obtain ⟨s₂, o, h1, r⟩ := K
  exact ⟨s₂, o, st _ h1, r⟩
theorem pu {L' : Array Slot} {S' : List Value} (st : ∀ {p : Program} {e : Env} {m : MethodId} {below : List Frame} {c : Code} {T t : State}, At T m c below → p.tables.exec = Jvm.exec → c.code = B → Steps p.tables e below (T.setTop (mkF m pc' L' S')) t → Steps p.tables e below (T.setTop (mkF m pc L S)) t)
    (K : Wq l nw Z EL a0 n0 y B ml ret R h0 Post fs h ce sl pc' L' S') : Wq l nw Z EL a0 n0 y B ml ret R h0 Post fs h ce sl pc L S := fun p e s m args below meth c T locs vm k C =>
  (K p e s m args below meth c T locs vm k C).st fun u q => st C.2.2.1.here C.1.1 C.1.2.1 q
/-- cells and slots may be counted higher -/
theorem more {ce' sl' : Nat} (hc : ce ≤ ce') (hs : sl ≤ sl') (K : Wq l nw Z EL a0 n0 y B ml ret R h0 Post fs h ce' sl' pc L S) : Wq l nw Z EL a0 n0 y B ml ret R h0 Post fs h ce sl pc L S := fun p e s m args below meth c T locs vm k C =>
  K p e s m args below meth c T locs vm k ⟨C.1, C.2.1, C.2.2.1.more hc hs, C.2.2.2⟩
theorem fewer {fs' : List Addr} (hf : ∀ x ∈ fs', x ∈ fs) (K : Wq l nw Z EL a0 n0 y B ml ret R h0 Post fs' h ce sl pc L S) : Wq l nw Z EL a0 n0 y B ml ret R h0 Post fs h ce sl pc L S := fun p e s m args below meth c T locs vm k C =>
  K p e s m args below meth c T locs vm k ⟨C.1, C.2.1, C.2.2.1, C.2.2.2.1, C.2.2.2.2.1, C.2.2.2.2.2.1, C.2.2.2.2.2.2.1, fun x hx => C.2.2.2.2.2.2.2 x (hf x hx)⟩
theorem at' {L' : Array Slot} {S' : List Value} {ce' sl' : Nat} (e4 : ce = ce') (e5 : sl = sl') (e1 : pc = pc') (e2 : L = L') (e3 : S = S') (K : Wq l nw Z EL a0 n0 y B ml ret R h0 Post fs h ce' sl' pc' L' S') : Wq l nw Z EL a0 n0 y B ml ret R h0 Post fs h ce sl pc L S := by subst e1 e2 e3 e4 e5; exact K
/-- the words of the sheet, at hand in the walk -/
theorem words (K : (∀ d ∈ tables_1, d.before a0 Z = true) → Wq l nw Z EL a0 n0 y B ml ret R h0 Post fs h ce sl pc L S) : Wq l nw Z EL a0 n0 y B ml ret R h0 Post fs h ce sl pc L S := fun p e s m args below meth c T locs vm k C => K C.2.1.2.1 p e s m args below meth c T locs vm k C
theorem ews (K : (∀ d ∈ tables_1, d.before a0 Z = true) → EW Z a0 EL → Wq l nw Z EL a0 n0 y B ml ret R h0 Post fs h ce sl pc L S) : Wq l nw Z EL a0 n0 y B ml ret R h0 Post fs h ce sl pc L S := fun p e s m args below meth c T locs vm k C => K C.2.1.2.1 C.2.1.2.2.1 p e s m args below meth c T locs vm k C
theorem fsz (K : (∀ x ∈ fs, n0 ≤ x ∧ x < h.size) → Wq l nw Z EL a0 n0 y B ml ret R h0 Post fs h ce sl pc L S) : Wq l nw Z EL a0 n0 y B ml ret R h0 Post fs h ce sl pc L S := fun p e s m args below meth c T locs vm k C => K (fun x q => ⟨(C.2.2.2.2.2.2.2 x q).1, (C.2.2.2.2.2.2.2 x q).2.1⟩) p e s m args below meth c T locs vm k C
theorem old (K : Old Z n0 h → h0.size ≤ h.size → Wq l nw Z EL a0 n0 y B ml ret R h0 Post fs h ce sl pc L S) : Wq l nw Z EL a0 n0 y B ml ret R h0 Post fs h ce sl pc L S := fun p e s m args below meth c T locs vm k C => K C.2.2.2.2.1.2 C.2.2.2.2.2.2.1.2.1 p e s m args below meth c T locs vm k C
theorem iload {j : Nat} {v : Int32} (hd : decode B pc = .ok (.iload j, 2)) (hl : L[j]? = some (.val (.int v))) (hp : pc + 2 = pc') (K : Wq l nw Z EL a0 n0 y B ml ret R h0 Post fs h ce sl pc' L (.int v :: S)) : Wq l nw Z EL a0 n0 y B ml ret R h0 Post fs h ce sl pc L S :=
  pu (fun h hx hb q => by subst hp; exact XS.iload h hx rfl (Jvm.hb hb hd) hl q) K
theorem iloadN {j : Fin 4} {v : Int32} (hd : decode B pc = .ok (.iload_n j, 1)) (hl : L[j.val]? = some (.val (.int v))) (hp : pc + 1 = pc') (K : Wq l nw Z EL a0 n0 y B ml ret R h0 Post fs h ce sl pc' L (.int v :: S)) : Wq l nw Z EL a0 n0 y B ml ret R h0 Post fs h ce sl pc L S :=
  pu (fun h hx hb q => by subst hp; exact XS.iloadN h hx rfl (Jvm.hb hb hd) hl q) K
theorem lload {j : Nat} {v : Int64} (hd : decode B pc = .ok (.lload j, 2)) (hl : L[j]? = some (.val (.long v))) (hp : pc + 2 = pc') (K : Wq l nw Z EL a0 n0 y B ml ret R h0 Post fs h ce sl pc' L (.long v :: S)) : Wq l nw Z EL a0 n0 y B ml ret R h0 Post fs h ce sl pc L S :=
  pu (fun h hx hb q => by subst hp; exact XS.lload h hx rfl (Jvm.hb hb hd) hl q) K
theorem lloadN {j : Fin 4} {v : Int64} (hd : decode B pc = .ok (.lload_n j, 1)) (hl : L[j.val]? = some (.val (.long v))) (hp : pc + 1 = pc') (K : Wq l nw Z EL a0 n0 y B ml ret R h0 Post fs h ce sl pc' L (.long v :: S)) : Wq l nw Z EL a0 n0 y B ml ret R h0 Post fs h ce sl pc L S :=
  pu (fun h hx hb q => by subst hp; exact XS.lloadN h hx rfl (Jvm.hb hb hd) hl q) K
theorem dload {j : Nat} {v : UInt64} (hd : decode B pc = .ok (.dload j, 2)) (hl : L[j]? = some (.val (.double v))) (hp : pc + 2 = pc') (K : Wq l nw Z EL a0 n0 y B ml ret R h0 Post fs h ce sl pc' L (.double v :: S)) : Wq l nw Z EL a0 n0 y B ml ret R h0 Post fs h ce sl pc L S :=
  pu (fun h hx hb q => by subst hp; exact Jvm.Free.XS.dload h hx rfl (Jvm.hb hb hd) hl q) K
theorem dloadN {j : Fin 4} {v : UInt64} (hd : decode B pc = .ok (.dload_n j, 1)) (hl : L[j.val]? = some (.val (.double v))) (hp : pc + 1 = pc') (K : Wq l nw Z EL a0 n0 y B ml ret R h0 Post fs h ce sl pc' L (.double v :: S)) : Wq l nw Z EL a0 n0 y B ml ret R h0 Post fs h ce sl pc L S :=
  pu (fun h hx hb q => by subst hp; exact XS.dloadN h hx rfl (Jvm.hb hb hd) hl q) K
theorem aload {j : Nat} {v : Value} (hd : decode B pc = .ok (.aload j, 2)) (hl : L[j]? = some (.val v)) (hv : v.isRef = true) (hp : pc + 2 = pc') (K : Wq l nw Z EL a0 n0 y B ml ret R h0 Post fs h ce sl pc' L (v :: S)) : Wq l nw Z EL a0 n0 y B ml ret R h0 Post fs h ce sl pc L S :=
  pu (fun h hx hb q => by subst hp; exact XS.aload h hx rfl (Jvm.hb hb hd) hl hv q) K
theorem aloadN {j : Fin 4} {v : Value} (hd : decode B pc = .ok (.aload_n j, 1)) (hl : L[j.val]? = some (.val v)) (hv : v.isRef = true) (hp : pc + 1 = pc') (K : Wq l nw Z EL a0 n0 y B ml ret R h0 Post fs h ce sl pc' L (v :: S)) : Wq l nw Z EL a0 n0 y B ml ret R h0 Post fs h ce sl pc L S :=
  pu (fun h hx hb q => by subst hp; exact XS.aloadN h hx rfl (Jvm.hb hb hd) hl hv q) K
theorem istore {j : Nat} {v : Int32} {L' : Array Slot} (hd : decode B pc = .ok (.istore j, 2)) (hl : storeLocals L j (.int v) = some L') (hp : pc + 2 = pc') (K : Wq l nw Z EL a0 n0 y B ml ret R h0 Post fs h ce sl pc' L' S) : Wq l nw Z EL a0 n0 y B ml ret R h0 Post fs h ce sl pc L (.int v :: S) :=
  pu (fun h hx hb q => by subst hp; exact XS.istore h hx rfl (Jvm.hb hb hd) rfl hl q) K
theorem istoreN {j : Fin 4} {v : Int32} {L' : Array Slot} (hd : decode B pc = .ok (.istore_n j, 1)) (hl : storeLocals L j.val (.int v) = some L') (hp : pc + 1 = pc') (K : Wq l nw Z EL a0 n0 y B ml ret R h0 Post fs h ce sl pc' L' S) : Wq l nw Z EL a0 n0 y B ml ret R h0 Post fs h ce sl pc L (.int v :: S) :=
  pu (fun h hx hb q => by subst hp; exact XS.istoreN h hx rfl (Jvm.hb hb hd) rfl hl q) K
theorem lstore {j : Nat} {v : Int64} {L' : Array Slot} (hd : decode B pc = .ok (.lstore j, 2)) (hl : storeLocals L j (.long v) = some L') (hp : pc + 2 = pc') (K : Wq l nw Z EL a0 n0 y B ml ret R h0 Post fs h ce sl pc' L' S) : Wq l nw Z EL a0 n0 y B ml ret R h0 Post fs h ce sl pc L (.long v :: S) :=
  pu (fun h hx hb q => by subst hp; exact XS.lstore h hx rfl (Jvm.hb hb hd) rfl hl q) K
theorem lstoreN {j : Fin 4} {v : Int64} {L' : Array Slot} (hd : decode B pc = .ok (.lstore_n j, 1)) (hl : storeLocals L j.val (.long v) = some L') (hp : pc + 1 = pc') (K : Wq l nw Z EL a0 n0 y B ml ret R h0 Post fs h ce sl pc' L' S) : Wq l nw Z EL a0 n0 y B ml ret R h0 Post fs h ce sl pc L (.long v :: S) :=
  pu (fun h hx hb q => by subst hp; exact XS.lstoreN h hx rfl (Jvm.hb hb hd) rfl hl q) K
theorem dstore {j : Nat} {v : UInt64} {L' : Array Slot} (hd : decode B pc = .ok (.dstore j, 2)) (hl : storeLocals L j (.double v) = some L') (hp : pc + 2 = pc') (K : Wq l nw Z EL a0 n0 y B ml ret R h0 Post fs h ce sl pc' L' S) : Wq l nw Z EL a0 n0 y B ml ret R h0 Post fs h ce sl pc L (.double v :: S) :=
  pu (fun h hx hb q => by subst hp; exact XS.dstore h hx rfl (Jvm.hb hb hd) rfl hl q) K
theorem dstoreN {j : Fin 4} {v : UInt64} {L' : Array Slot} (hd : decode B pc = .ok (.dstore_n j, 1)) (hl : storeLocals L j.val (.double v) = some L') (hp : pc + 1 = pc') (K : Wq l nw Z EL a0 n0 y B ml ret R h0 Post fs h ce sl pc' L' S) : Wq l nw Z EL a0 n0 y B ml ret R h0 Post fs h ce sl pc L (.double v :: S) :=
  pu (fun h hx hb q => by subst hp; exact XS.dstoreN h hx rfl (Jvm.hb hb hd) rfl hl q) K
theorem astore {j : Nat} {v : Value} {L' : Array Slot} (hd : decode B pc = .ok (.astore j, 2)) (hv : v.isRef = true) (hl : storeLocals L j v = some L') (hp : pc + 2 = pc') (K : Wq l nw Z EL a0 n0 y B ml ret R h0 Post fs h ce sl pc' L' S) : Wq l nw Z EL a0 n0 y B ml ret R h0 Post fs h ce sl pc L (v :: S) :=
  pu (fun h hx hb q => by subst hp; exact XS.astore h hx rfl (Jvm.hb hb hd) rfl hv hl q) K
theorem astoreN {j : Fin 4} {v : Value} {L' : Array Slot} (hd : decode B pc = .ok (.astore_n j, 1)) (hv : v.isRef = true) (hl : storeLocals L j.val v = some L') (hp : pc + 1 = pc') (K : Wq l nw Z EL a0 n0 y B ml ret R h0 Post fs h ce sl pc' L' S) : Wq l nw Z EL a0 n0 y B ml ret R h0 Post fs h ce sl pc L (v :: S) :=
  pu (fun h hx hb q => by subst hp; exact XS.astoreN h hx rfl (Jvm.hb hb hd) rfl hv hl q) K
theorem iconst {i : Int} {v : Int32} (hd : decode B pc = .ok (.iconst i, 1)) (hv : Int32.ofInt i = v) (hp : pc + 1 = pc') (K : Wq l nw Z EL a0 n0 y B ml ret R h0 Post fs h ce sl pc' L (.int v :: S)) : Wq l nw Z EL a0 n0 y B ml ret R h0 Post fs h ce sl pc L S :=
  pu (fun h hx hb q => by subst hp hv; exact XS.iconst h hx rfl (Jvm.hb hb hd) q) K
theorem bipush {i : Int} {v : Int32} (hd : decode B pc = .ok (.bipush i, 2)) (hv : (Int8.ofInt i).toInt32 = v) (hp : pc + 2 = pc') (K : Wq l nw Z EL a0 n0 y B ml ret R h0 Post fs h ce sl pc' L (.int v :: S)) : Wq l nw Z EL a0 n0 y B ml ret R h0 Post fs h ce sl pc L S :=
  pu (fun h hx hb q => by subst hp hv; exact XS.bipush h hx rfl (Jvm.hb hb hd) q) K
theorem sipush {i : Int} {v : Int32} (hd : decode B pc = .ok (.sipush i, 3)) (hv : (Int16.ofInt i).toInt32 = v) (hp : pc + 3 = pc') (K : Wq l nw Z EL a0 n0 y B ml ret R h0 Post fs h ce sl pc' L (.int v :: S)) : Wq l nw Z EL a0 n0 y B ml ret R h0 Post fs h ce sl pc L S :=
  pu (fun h hx hb q => by subst hp hv; exact XS.sipush h hx rfl (Jvm.hb hb hd) q) K
theorem lconst {j : Fin 2} {v : Int64} (hd : decode B pc = .ok (.lconst j, 1)) (hv : Int64.ofNat j = v) (hp : pc + 1 = pc') (K : Wq l nw Z EL a0 n0 y B ml ret R h0 Post fs h ce sl pc' L (.long v :: S)) : Wq l nw Z EL a0 n0 y B ml ret R h0 Post fs h ce sl pc L S :=
  pu (fun h hx hb q => by subst hp hv; exact XS.lconst h hx rfl (Jvm.hb hb hd) q) K
theorem aconst_null  (hd : decode B pc = .ok (.aconst_null, 1)) (hp : pc + 1 = pc') (K : Wq l nw Z EL a0 n0 y B ml ret R h0 Post fs h ce sl pc' L (.null :: S)) : Wq l nw Z EL a0 n0 y B ml ret R h0 Post fs h ce sl pc L S :=
  pu (fun h hx hb q => by subst hp; exact XS.aconstNull h hx rfl (Jvm.hb hb hd) q) K
theorem iadd {x z : Int32} (hd : decode B pc = .ok (.iadd, 1)) (hp : pc + 1 = pc') (K : Wq l nw Z EL a0 n0 y B ml ret R h0 Post fs h ce sl pc' L (.int (x + z) :: S)) : Wq l nw Z EL a0 n0 y B ml ret R h0 Post fs h ce sl pc L (.int z :: .int x :: S) :=
  pu (fun h hx hb q => by subst hp; exact XS.iadd h hx rfl (Jvm.hb hb hd) rfl q) K
theorem isub {x z : Int32} (hd : decode B pc = .ok (.isub, 1)) (hp : pc + 1 = pc') (K : Wq l nw Z EL a0 n0 y B ml ret R h0 Post fs h ce sl pc' L (.int (x - z) :: S)) : Wq l nw Z EL a0 n0 y B ml ret R h0 Post fs h ce sl pc L (.int z :: .int x :: S) :=
  pu (fun h hx hb q => by subst hp; exact XS.isub h hx rfl (Jvm.hb hb hd) rfl q) K
theorem imul {x z : Int32} (hd : decode B pc = .ok (.imul, 1)) (hp : pc + 1 = pc') (K : Wq l nw Z EL a0 n0 y B ml ret R h0 Post fs h ce sl pc' L (.int (x * z) :: S)) : Wq l nw Z EL a0 n0 y B ml ret R h0 Post fs h ce sl pc L (.int z :: .int x :: S) :=
  pu (fun h hx hb q => by subst hp; exact XS.imul h hx rfl (Jvm.hb hb hd) rfl q) K
theorem iand {x z : Int32} (hd : decode B pc = .ok (.iand, 1)) (hp : pc + 1 = pc') (K : Wq l nw Z EL a0 n0 y B ml ret R h0 Post fs h ce sl pc' L (.int (x &&& z) :: S)) : Wq l nw Z EL a0 n0 y B ml ret R h0 Post fs h ce sl pc L (.int z :: .int x :: S) :=
  pu (fun h hx hb q => by subst hp; exact XS.iand h hx rfl (Jvm.hb hb hd) rfl q) K
theorem ior {x z : Int32} (hd : decode B pc = .ok (.ior, 1)) (hp : pc + 1 = pc') (K : Wq l nw Z EL a0 n0 y B ml ret R h0 Post fs h ce sl pc' L (.int (x ||| z) :: S)) : Wq l nw Z EL a0 n0 y B ml ret R h0 Post fs h ce sl pc L (.int z :: .int x :: S) :=
  pu (fun h hx hb q => by subst hp; exact XS.ior h hx rfl (Jvm.hb hb hd) rfl q) K
theorem ixor {x z : Int32} (hd : decode B pc = .ok (.ixor, 1)) (hp : pc + 1 = pc') (K : Wq l nw Z EL a0 n0 y B ml ret R h0 Post fs h ce sl pc' L (.int (x ^^^ z) :: S)) : Wq l nw Z EL a0 n0 y B ml ret R h0 Post fs h ce sl pc L (.int z :: .int x :: S) :=
  pu (fun h hx hb q => by subst hp; exact XS.ixor h hx rfl (Jvm.hb hb hd) rfl q) K
theorem ishl {x z : Int32} (hd : decode B pc = .ok (.ishl, 1)) (hp : pc + 1 = pc') (K : Wq l nw Z EL a0 n0 y B ml ret R h0 Post fs h ce sl pc' L (.int (x <<< (z &&& 31)) :: S)) : Wq l nw Z EL a0 n0 y B ml ret R h0 Post fs h ce sl pc L (.int z :: .int x :: S) :=
  pu (fun h hx hb q => by subst hp; exact XS.ishl h hx rfl (Jvm.hb hb hd) rfl q) K
theorem ishr {x z : Int32} (hd : decode B pc = .ok (.ishr, 1)) (hp : pc + 1 = pc') (K : Wq l nw Z EL a0 n0 y B ml ret R h0 Post fs h ce sl pc' L (.int (x >>> (z &&& 31)) :: S)) : Wq l nw Z EL a0 n0 y B ml ret R h0 Post fs h ce sl pc L (.int z :: .int x :: S) :=
  pu (fun h hx hb q => by subst hp; exact XS.ishr h hx rfl (Jvm.hb hb hd) rfl q) K
theorem iushr {x z : Int32} (hd : decode B pc = .ok (.iushr, 1)) (hp : pc + 1 = pc') (K : Wq l nw Z EL a0 n0 y B ml ret R h0 Post fs h ce sl pc' L (.int ((x.toUInt32 >>> (z &&& 31).toUInt32).toInt32) :: S)) : Wq l nw Z EL a0 n0 y B ml ret R h0 Post fs h ce sl pc L (.int z :: .int x :: S) :=
  pu (fun h hx hb q => by subst hp; exact XS.iushr h hx rfl (Jvm.hb hb hd) rfl q) K
theorem ladd {x z : Int64} (hd : decode B pc = .ok (.ladd, 1)) (hp : pc + 1 = pc') (K : Wq l nw Z EL a0 n0 y B ml ret R h0 Post fs h ce sl pc' L (.long (x + z) :: S)) : Wq l nw Z EL a0 n0 y B ml ret R h0 Post fs h ce sl pc L (.long z :: .long x :: S) :=
  pu (fun h hx hb q => by subst hp; exact XS.ladd h hx rfl (Jvm.hb hb hd) rfl q) K
theorem lsub {x z : Int64} (hd : decode B pc = .ok (.lsub, 1)) (hp : pc + 1 = pc') (K : Wq l nw Z EL a0 n0 y B ml ret R h0 Post fs h ce sl pc' L (.long (x - z) :: S)) : Wq l nw Z EL a0 n0 y B ml ret R h0 Post fs h ce sl pc L (.long z :: .long x :: S) :=
  pu (fun h hx hb q => by subst hp; exact XS.lsub h hx rfl (Jvm.hb hb hd) rfl q) K
theorem lmul {x z : Int64} (hd : decode B pc = .ok (.lmul, 1)) (hp : pc + 1 = pc') (K : Wq l nw Z EL a0 n0 y B ml ret R h0 Post fs h ce sl pc' L (.long (x * z) :: S)) : Wq l nw Z EL a0 n0 y B ml ret R h0 Post fs h ce sl pc L (.long z :: .long x :: S) :=
  pu (fun h hx hb q => by subst hp; exact XS.lmul h hx rfl (Jvm.hb hb hd) rfl q) K
theorem land {x z : Int64} (hd : decode B pc = .ok (.land, 1)) (hp : pc + 1 = pc') (K : Wq l nw Z EL a0 n0 y B ml ret R h0 Post fs h ce sl pc' L (.long (x &&& z) :: S)) : Wq l nw Z EL a0 n0 y B ml ret R h0 Post fs h ce sl pc L (.long z :: .long x :: S) :=
  pu (fun h hx hb q => by subst hp; exact XS.land h hx rfl (Jvm.hb hb hd) rfl q) K
theorem lor {x z : Int64} (hd : decode B pc = .ok (.lor, 1)) (hp : pc + 1 = pc') (K : Wq l nw Z EL a0 n0 y B ml ret R h0 Post fs h ce sl pc' L (.long (x ||| z) :: S)) : Wq l nw Z EL a0 n0 y B ml ret R h0 Post fs h ce sl pc L (.long z :: .long x :: S) :=
  pu (fun h hx hb q => by subst hp; exact XS.lor h hx rfl (Jvm.hb hb hd) rfl q) K
theorem lxor {x z : Int64} (hd : decode B pc = .ok (.lxor, 1)) (hp : pc + 1 = pc') (K : Wq l nw Z EL a0 n0 y B ml ret R h0 Post fs h ce sl pc' L (.long (x ^^^ z) :: S)) : Wq l nw Z EL a0 n0 y B ml ret R h0 Post fs h ce sl pc L (.long z :: .long x :: S) :=
  pu (fun h hx hb q => by subst hp; exact XS.lxor h hx rfl (Jvm.hb hb hd) rfl q) K
theorem lshl {x : Int64} {z : Int32} (hd : decode B pc = .ok (.lshl, 1)) (hp : pc + 1 = pc') (K : Wq l nw Z EL a0 n0 y B ml ret R h0 Post fs h ce sl pc' L (.long (x <<< (z &&& 0x3f).toInt64) :: S)) : Wq l nw Z EL a0 n0 y B ml ret R h0 Post fs h ce sl pc L (.int z :: .long x :: S) :=
  pu (fun h hx hb q => by subst hp; exact XS.lshl h hx rfl (Jvm.hb hb hd) rfl q) K
theorem lshr {x : Int64} {z : Int32} (hd : decode B pc = .ok (.lshr, 1)) (hp : pc + 1 = pc') (K : Wq l nw Z EL a0 n0 y B ml ret R h0 Post fs h ce sl pc' L (.long (x >>> (z &&& 0x3f).toInt64) :: S)) : Wq l nw Z EL a0 n0 y B ml ret R h0 Post fs h ce sl pc L (.int z :: .long x :: S) :=
  pu (fun h hx hb q => by subst hp; exact XS.lshr h hx rfl (Jvm.hb hb hd) rfl q) K
theorem lushr {x : Int64} {z : Int32} (hd : decode B pc = .ok (.lushr, 1)) (hp : pc + 1 = pc') (K : Wq l nw Z EL a0 n0 y B ml ret R h0 Post fs h ce sl pc' L (.long ((x.toUInt64 >>> (z &&& 0x3f).toInt64.toUInt64).toInt64) :: S)) : Wq l nw Z EL a0 n0 y B ml ret R h0 Post fs h ce sl pc L (.int z :: .long x :: S) :=
  pu (fun h hx hb q => by subst hp; exact XS.lushr h hx rfl (Jvm.hb hb hd) rfl q) K
theorem idiv {x z : Int32} (hd : decode B pc = .ok (.idiv, 1)) (hz : ¬ z = 0) (hp : pc + 1 = pc') (K : Wq l nw Z EL a0 n0 y B ml ret R h0 Post fs h ce sl pc' L (.int (x / z) :: S)) : Wq l nw Z EL a0 n0 y B ml ret R h0 Post fs h ce sl pc L (.int z :: .int x :: S) :=
  pu (fun h hx hb q => by subst hp; exact XS.idiv h hx rfl (Jvm.hb hb hd) rfl hz q) K
theorem ldiv {x z : Int64} (hd : decode B pc = .ok (.ldiv, 1)) (hz : ¬ z = 0) (hp : pc + 1 = pc') (K : Wq l nw Z EL a0 n0 y B ml ret R h0 Post fs h ce sl pc' L (.long (x / z) :: S)) : Wq l nw Z EL a0 n0 y B ml ret R h0 Post fs h ce sl pc L (.long z :: .long x :: S) :=
  pu (fun h hx hb q => by subst hp; exact XS.ldiv h hx rfl (Jvm.hb hb hd) rfl hz q) K
theorem irem {x z : Int32} (hd : decode B pc = .ok (.irem, 1)) (hz : ¬ z = 0) (hp : pc + 1 = pc') (K : Wq l nw Z EL a0 n0 y B ml ret R h0 Post fs h ce sl pc' L (.int (x % z) :: S)) : Wq l nw Z EL a0 n0 y B ml ret R h0 Post fs h ce sl pc L (.int z :: .int x :: S) := fun p e s m args below meth c T locs vm k C =>
  (K p e s m args below meth c T locs vm k C).st fun u q => by subst hp; exact iremM C.2.2.1 C.1.1 rfl (Jvm.hb C.1.2.1 hd) rfl hz q
theorem i2l {x : Int32} (hd : decode B pc = .ok (.i2l, 1)) (hp : pc + 1 = pc') (K : Wq l nw Z EL a0 n0 y B ml ret R h0 Post fs h ce sl pc' L (.long (x.toInt64) :: S)) : Wq l nw Z EL a0 n0 y B ml ret R h0 Post fs h ce sl pc L (.int x :: S) :=
  pu (fun h hx hb q => by subst hp; exact XS.i2l h hx rfl (Jvm.hb hb hd) rfl q) K
theorem l2i {x : Int64} (hd : decode B pc = .ok (.l2i, 1)) (hp : pc + 1 = pc') (K : Wq l nw Z EL a0 n0 y B ml ret R h0 Post fs h ce sl pc' L (.int (x.toInt32) :: S)) : Wq l nw Z EL a0 n0 y B ml ret R h0 Post fs h ce sl pc L (.long x :: S) :=
  pu (fun h hx hb q => by subst hp; exact XS.l2i h hx rfl (Jvm.hb hb hd) rfl q) K
theorem i2b {x : Int32} (hd : decode B pc = .ok (.i2b, 1)) (hp : pc + 1 = pc') (K : Wq l nw Z EL a0 n0 y B ml ret R h0 Post fs h ce sl pc' L (.int (x.toInt8.toInt32) :: S)) : Wq l nw Z EL a0 n0 y B ml ret R h0 Post fs h ce sl pc L (.int x :: S) :=
  pu (fun h hx hb q => by subst hp; exact XS.i2b h hx rfl (Jvm.hb hb hd) rfl q) K
theorem i2c {x : Int32} (hd : decode B pc = .ok (.i2c, 1)) (hp : pc + 1 = pc') (K : Wq l nw Z EL a0 n0 y B ml ret R h0 Post fs h ce sl pc' L (.int (x.toUInt32.toUInt16.toUInt32.toInt32) :: S)) : Wq l nw Z EL a0 n0 y B ml ret R h0 Post fs h ce sl pc L (.int x :: S) :=
  pu (fun h hx hb q => by subst hp; exact XS.i2c h hx rfl (Jvm.hb hb hd) rfl q) K
theorem i2s {x : Int32} (hd : decode B pc = .ok (.i2s, 1)) (hp : pc + 1 = pc') (K : Wq l nw Z EL a0 n0 y B ml ret R h0 Post fs h ce sl pc' L (.int (x.toInt16.toInt32) :: S)) : Wq l nw Z EL a0 n0 y B ml ret R h0 Post fs h ce sl pc L (.int x :: S) :=
  pu (fun h hx hb q => by subst hp; exact XS.i2s h hx rfl (Jvm.hb hb hd) rfl q) K
theorem ineg {x : Int32} (hd : decode B pc = .ok (.ineg, 1)) (hp : pc + 1 = pc') (K : Wq l nw Z EL a0 n0 y B ml ret R h0 Post fs h ce sl pc' L (.int (-x) :: S)) : Wq l nw Z EL a0 n0 y B ml ret R h0 Post fs h ce sl pc L (.int x :: S) :=
  pu (fun h hx hb q => by subst hp; exact XS.ineg h hx rfl (Jvm.hb hb hd) rfl q) K
theorem lneg {x : Int64} (hd : decode B pc = .ok (.lneg, 1)) (hp : pc + 1 = pc') (K : Wq l nw Z EL a0 n0 y B ml ret R h0 Post fs h ce sl pc' L (.long (-x) :: S)) : Wq l nw Z EL a0 n0 y B ml ret R h0 Post fs h ce sl pc L (.long x :: S) :=
  pu (fun h hx hb q => by subst hp; exact XS.lneg h hx rfl (Jvm.hb hb hd) rfl q) K
theorem lcmp {x z : Int64} (hd : decode B pc = .ok (.lcmp, 1)) (hp : pc + 1 = pc') (K : Wq l nw Z EL a0 n0 y B ml ret R h0 Post fs h ce sl pc' L (.int (lcmpW x z) :: S)) : Wq l nw Z EL a0 n0 y B ml ret R h0 Post fs h ce sl pc L (.long z :: .long x :: S) :=
  pu (fun h hx hb q => by subst hp; exact XS.lcmp h hx rfl (Jvm.hb hb hd) rfl q) K
theorem iinc {j : Nat} {i : Int} {x v : Int32} {L' : Array Slot} (hd : decode B pc = .ok (.iinc j i, 3)) (hl : L[j]? = some (.val (.int x))) (hv : x + Int32.ofInt i = v) (hl' : storeLocals L j (.int v) = some L') (hp : pc + 3 = pc') (K : Wq l nw Z EL a0 n0 y B ml ret R h0 Post fs h ce sl pc' L' S) : Wq l nw Z EL a0 n0 y B ml ret R h0 Post fs h ce sl pc L S :=
  pu (fun h hx hb q => by subst hp hv; exact XS.iinc h hx rfl (Jvm.hb hb hd) hl hl' q) K
theorem dup {v : Value} (hd : decode B pc = .ok (.dup, 1)) (hc : v.category = 1) (hp : pc + 1 = pc') (K : Wq l nw Z EL a0 n0 y B ml ret R h0 Post fs h ce sl pc' L (v :: v :: S)) : Wq l nw Z EL a0 n0 y B ml ret R h0 Post fs h ce sl pc L (v :: S) :=
  pu (fun h hx hb q => by subst hp; exact XS.dup h hx rfl (Jvm.hb hb hd) rfl hc q) K
theorem pop {v : Value} (hd : decode B pc = .ok (.pop, 1)) (hc : v.category = 1) (hp : pc + 1 = pc') (K : Wq l nw Z EL a0 n0 y B ml ret R h0 Post fs h ce sl pc' L S) : Wq l nw Z EL a0 n0 y B ml ret R h0 Post fs h ce sl pc L (v :: S) :=
  pu (fun h hx hb q => by subst hp; exact XS.pop h hx rfl (Jvm.hb hb hd) rfl hc q) K
theorem dup_x1 {v w : Value} (hd : decode B pc = .ok (.dup_x1, 1)) (hc : v.category = 1) (hc2 : w.category = 1) (hp : pc + 1 = pc') (K : Wq l nw Z EL a0 n0 y B ml ret R h0 Post fs h ce sl pc' L (v :: w :: v :: S)) : Wq l nw Z EL a0 n0 y B ml ret R h0 Post fs h ce sl pc L (v :: w :: S) :=
  pu (fun h hx hb q => by subst hp; exact XS.dupX1 h hx rfl (Jvm.hb hb hd) rfl hc hc2 q) K
theorem i2d {x : Int32} (hd : decode B pc = .ok (.i2d, 1)) (hp : pc + 1 = pc') (K : Wq l nw Z EL a0 n0 y B ml ret R h0 Post fs h ce sl pc' L (.double (FP.i2d x) :: S)) : Wq l nw Z EL a0 n0 y B ml ret R h0 Post fs h ce sl pc L (.int x :: S) :=
  pu (fun h hx hb q => by subst hp; exact XS.i2dS h hx rfl (Jvm.hb hb hd) rfl rfl q) K
theorem l2d {x : Int64} (hd : decode B pc = .ok (.l2d, 1)) (hp : pc + 1 = pc') (K : Wq l nw Z EL a0 n0 y B ml ret R h0 Post fs h ce sl pc' L (.double (FP.l2d x) :: S)) : Wq l nw Z EL a0 n0 y B ml ret R h0 Post fs h ce sl pc L (.long x :: S) :=
  pu (fun h hx hb q => by subst hp; exact XS.l2dS h hx rfl (Jvm.hb hb hd) rfl rfl q) K
theorem dcmp {o : CmpOp} {x z : UInt64} (hd : decode B pc = .ok (.dcmp o, 1)) (hp : pc + 1 = pc') (K : Wq l nw Z EL a0 n0 y B ml ret R h0 Post fs h ce sl pc' L (.int (cmpValue (FP.dcmp x z) o) :: S)) : Wq l nw Z EL a0 n0 y B ml ret R h0 Post fs h ce sl pc L (.double z :: .double x :: S) :=
  pu (fun h hx hb q => by subst hp; exact XS.dcmpS h hx rfl (Jvm.hb hb hd) rfl rfl q) K
theorem dconst0 {v : UInt64} (hd : decode B pc = .ok (.dconst 0, 1)) (hv : FP.dconst0 = v) (hp : pc + 1 = pc') (K : Wq l nw Z EL a0 n0 y B ml ret R h0 Post fs h ce sl pc' L (.double v :: S)) : Wq l nw Z EL a0 n0 y B ml ret R h0 Post fs h ce sl pc L S :=
  pu (fun h hx hb q => by subst hp; exact XS.dconst0 h hx rfl (Jvm.hb hb hd) hv q) K
theorem dconst1 {v : UInt64} (hd : decode B pc = .ok (.dconst 1, 1)) (hv : FP.dconst1 = v) (hp : pc + 1 = pc') (K : Wq l nw Z EL a0 n0 y B ml ret R h0 Post fs h ce sl pc' L (.double v :: S)) : Wq l nw Z EL a0 n0 y B ml ret R h0 Post fs h ce sl pc L S :=
  pu (fun h hx hb q => by subst hp; exact XS.dconst1 h hx rfl (Jvm.hb hb hd) hv q) K
theorem dadd {x z v : UInt64} (hd : decode B pc = .ok (.dadd, 1)) (hn : Jvm.Free.Fl.NoNaN64 (FP.dadd x z)) (hv : FP.dadd x z = v) (hp : pc + 1 = pc') (K : Wq l nw Z EL a0 n0 y B ml ret R h0 Post fs h ce sl pc' L (.double v :: S)) : Wq l nw Z EL a0 n0 y B ml ret R h0 Post fs h ce sl pc L (.double z :: .double x :: S) :=
  pu (fun h hx hb q => by subst hp; exact XS.daddS h hx rfl (Jvm.hb hb hd) rfl hn hv q) K
theorem dsub {x z v : UInt64} (hd : decode B pc = .ok (.dsub, 1)) (hn : Jvm.Free.Fl.NoNaN64 (FP.dsub x z)) (hv : FP.dsub x z = v) (hp : pc + 1 = pc') (K : Wq l nw Z EL a0 n0 y B ml ret R h0 Post fs h ce sl pc' L (.double v :: S)) : Wq l nw Z EL a0 n0 y B ml ret R h0 Post fs h ce sl pc L (.double z :: .double x :: S) :=
  pu (fun h hx hb q => by subst hp; exact XS.dsubS h hx rfl (Jvm.hb hb hd) rfl hn hv q) K
theorem dmul {x z v : UInt64} (hd : decode B pc = .ok (.dmul, 1)) (hn : Jvm.Free.Fl.NoNaN64 (FP.dmul x z)) (hv : FP.dmul x z = v) (hp : pc + 1 = pc') (K : Wq l nw Z EL a0 n0 y B ml ret R h0 Post fs h ce sl pc' L (.double v :: S)) : Wq l nw Z EL a0 n0 y B ml ret R h0 Post fs h ce sl pc L (.double z :: .double x :: S) :=
  pu (fun h hx hb q => by subst hp; exact XS.dmulS h hx rfl (Jvm.hb hb hd) rfl hn hv q) K
theorem ddiv {x z v : UInt64} (hd : decode B pc = .ok (.ddiv, 1)) (hn : Jvm.Free.Fl.NoNaN64 (FP.ddiv x z)) (hv : FP.ddiv x z = v) (hp : pc + 1 = pc') (K : Wq l nw Z EL a0 n0 y B ml ret R h0 Post fs h ce sl pc' L (.double v :: S)) : Wq l nw Z EL a0 n0 y B ml ret R h0 Post fs h ce sl pc L (.double z :: .double x :: S) :=
  pu (fun h hx hb q => by subst hp; exact XS.ddivS h hx rfl (Jvm.hb hb hd) rfl hn hv q) K
theorem goto {o : Int} (hd : decode B pc = .ok (.goto o, 3)) (ho : 0 ≤ (pc : Int) + o) (hp : ((pc : Int) + o).toNat = pc') (K : Wq l nw Z EL a0 n0 y B ml ret R h0 Post fs h ce sl pc' L S) : Wq l nw Z EL a0 n0 y B ml ret R h0 Post fs h ce sl pc L S :=
  pu (fun h hx hb q => XS.goto h hx rfl (pc0 := pc) rfl (Jvm.hb hb hd) ho hp q) K
def rel (cd : ClassFile.Cond) (x z : Int32) : Prop := match cd with
  | .eq => x = z
  | .ne => ¬ x = z
  | .lt => x < z
  | .ge => ¬ x < z
  | .gt => z < x
  | .le => ¬ z < x
def relN (cd : ClassFile.Cond) (x z : Int32) : Prop := match cd with
  | .eq => ¬ x = z
  | .ne => x = z
  | .lt => ¬ x < z
  | .ge => x < z
  | .gt => ¬ z < x
  | .le => z < x
theorem rel_t {cd : ClassFile.Cond} {x z : Int32} (h : rel cd x z) : if_icmp.holds cd x z = true := by
  cases cd
  · exact (teq h).1
  · exact (feq h).2
  · exact (tlt h).1
  · exact (flt h).2.1
  · exact (tlt h).2.2.1
  · exact (flt h).2.2.2
theorem rel_f {cd : ClassFile.Cond} {x z : Int32} (h : relN cd x z) : if_icmp.holds cd x z = false := by
  cases cd
  · exact (feq h).1
  · exact (teq h).2
  · exact (flt h).1
  · exact (tlt h).2.1
  · exact (flt h).2.2.1
  · exact (tlt h).2.2.2
theorem rel_or (cd : ClassFile.Cond) (x z : Int32) : rel cd x z ∨ relN cd x z := by
  cases cd <;> simp only [rel, relN] <;> first | exact Decidable.em _ | exact (Decidable.em _).symm
theorem icmpT {cd : ClassFile.Cond} {o : Int} {x z : Int32} (hd : decode B pc = .ok (.if_icmp cd o, 3)) (hc : rel cd x z) (ho : 0 ≤ (pc : Int) + o) (hp : ((pc : Int) + o).toNat = pc') (K : Wq l nw Z EL a0 n0 y B ml ret R h0 Post fs h ce sl pc' L S) : Wq l nw Z EL a0 n0 y B ml ret R h0 Post fs h ce sl pc L (.int z :: .int x :: S) :=
  pu (fun h hx hb q => XS.icmpYes h hx rfl (pc0 := pc) rfl (Jvm.hb hb hd) rfl (rel_t hc) ho hp q) K
theorem icmpF {cd : ClassFile.Cond} {o : Int} {x z : Int32} (hd : decode B pc = .ok (.if_icmp cd o, 3)) (hc : relN cd x z) (hp : pc + 3 = pc') (K : Wq l nw Z EL a0 n0 y B ml ret R h0 Post fs h ce sl pc' L S) : Wq l nw Z EL a0 n0 y B ml ret R h0 Post fs h ce sl pc L (.int z :: .int x :: S) :=
  pu (fun h hx hb q => by subst hp; exact XS.icmpNo h hx rfl (Jvm.hb hb hd) rfl (rel_f hc) q) K
theorem icmp {cd : ClassFile.Cond} {o : Int} {x z : Int32} {pcF : Nat} (hd : decode B pc = .ok (.if_icmp cd o, 3)) (ho : 0 ≤ (pc : Int) + o) (hp : ((pc : Int) + o).toNat = pc') (hp2 : pc + 3 = pcF) (K : rel cd x z → Wq l nw Z EL a0 n0 y B ml ret R h0 Post fs h ce sl pc' L S) (K2 : relN cd x z → Wq l nw Z EL a0 n0 y B ml ret R h0 Post fs h ce sl pcF L S) : Wq l nw Z EL a0 n0 y B ml ret R h0 Post fs h ce sl pc L (.int z :: .int x :: S) :=
  (rel_or cd x z).elim (fun q => icmpT hd q ho hp (K q)) (fun q => icmpF hd q hp2 (K2 q))
theorem ifT {cd : ClassFile.Cond} {o : Int} {x : Int32} (hd : decode B pc = .ok (.ifCond cd o, 3)) (hc : rel cd x 0) (ho : 0 ≤ (pc : Int) + o) (hp : ((pc : Int) + o).toNat = pc') (K : Wq l nw Z EL a0 n0 y B ml ret R h0 Post fs h ce sl pc' L S) : Wq l nw Z EL a0 n0 y B ml ret R h0 Post fs h ce sl pc L (.int x :: S) :=
  pu (fun h hx hb q => XS.ifYes h hx rfl (pc0 := pc) rfl (Jvm.hb hb hd) rfl ((if0 _ _).trans (rel_t hc)) ho hp q) K
theorem ifF {cd : ClassFile.Cond} {o : Int} {x : Int32} (hd : decode B pc = .ok (.ifCond cd o, 3)) (hc : relN cd x 0) (hp : pc + 3 = pc') (K : Wq l nw Z EL a0 n0 y B ml ret R h0 Post fs h ce sl pc' L S) : Wq l nw Z EL a0 n0 y B ml ret R h0 Post fs h ce sl pc L (.int x :: S) :=
  pu (fun h hx hb q => by subst hp; exact XS.ifNo h hx rfl (Jvm.hb hb hd) rfl ((if0 _ _).trans (rel_f hc)) q) K
theorem ifc {cd : ClassFile.Cond} {o : Int} {x : Int32} {pcF : Nat} (hd : decode B pc = .ok (.ifCond cd o, 3)) (ho : 0 ≤ (pc : Int) + o) (hp : ((pc : Int) + o).toNat = pc') (hp2 : pc + 3 = pcF) (K : rel cd x 0 → Wq l nw Z EL a0 n0 y B ml ret R h0 Post fs h ce sl pc' L S) (K2 : relN cd x 0 → Wq l nw Z EL a0 n0 y B ml ret R h0 Post fs h ce sl pcF L S) : Wq l nw Z EL a0 n0 y B ml ret R h0 Post fs h ce sl pc L (.int x :: S) :=
  (rel_or cd x 0).elim (fun q => ifT hd q ho hp (K q)) (fun q => ifF hd q hp2 (K2 q))
theorem ifnullT {o : Int} (hd : decode B pc = .ok (.ifnull o, 3)) (ho : 0 ≤ (pc : Int) + o) (hp : ((pc : Int) + o).toNat = pc') (K : Wq l nw Z EL a0 n0 y B ml ret R h0 Post fs h ce sl pc' L S) : Wq l nw Z EL a0 n0 y B ml ret R h0 Post fs h ce sl pc L (.null :: S) :=
  pu (fun h hx hb q => XS.ifnullYes h hx rfl (pc0 := pc) rfl (Jvm.hb hb hd) rfl ho hp q) K
theorem ifnullF {o : Int} {a : Addr} (hd : decode B pc = .ok (.ifnull o, 3)) (hp : pc + 3 = pc') (K : Wq l nw Z EL a0 n0 y B ml ret R h0 Post fs h ce sl pc' L S) : Wq l nw Z EL a0 n0 y B ml ret R h0 Post fs h ce sl pc L (.ref a :: S) :=
  pu (fun h hx hb q => by subst hp; exact XS.ifnullNo h hx rfl (Jvm.hb hb hd) rfl q) K
theorem ifnonnullT {o : Int} {a : Addr} (hd : decode B pc = .ok (.ifnonnull o, 3)) (ho : 0 ≤ (pc : Int) + o) (hp : ((pc : Int) + o).toNat = pc') (K : Wq l nw Z EL a0 n0 y B ml ret R h0 Post fs h ce sl pc' L S) : Wq l nw Z EL a0 n0 y B ml ret R h0 Post fs h ce sl pc L (.ref a :: S) :=
  pu (fun h hx hb q => XS.ifnonnullYes h hx rfl (pc0 := pc) rfl (Jvm.hb hb hd) rfl ho hp q) K
theorem ifnonnullF {o : Int} (hd : decode B pc = .ok (.ifnonnull o, 3)) (hp : pc + 3 = pc') (K : Wq l nw Z EL a0 n0 y B ml ret R h0 Post fs h ce sl pc' L S) : Wq l nw Z EL a0 n0 y B ml ret R h0 Post fs h ce sl pc L (.null :: S) :=
  pu (fun h hx hb q => by subst hp; exact XS.ifnonnullNo h hx rfl (Jvm.hb hb hd) rfl q) K
/-- two references compared: same or not -/
theorem acmp {cd : ACond} {o : Int} {v w : Value} (same : Bool) (hd : decode B pc = .ok (.if_acmp cd o, 3)) (h1 : v.isRef = true) (h2 : w.isRef = true) (hc : decide (v = w) = same) (ho : 0 ≤ (pc : Int) + o) (hp : pc' = if acV cd same = true then ((pc : Int) + o).toNat else pc + 3) (K : Wq l nw Z EL a0 n0 y B ml ret R h0 Post fs h ce sl pc' L S) : Wq l nw Z EL a0 n0 y B ml ret R h0 Post fs h ce sl pc L (w :: v :: S) := fun p e s m args below meth c T locs vm k C =>
  (K p e s m args below meth c T locs vm k C).st fun u q => Jvm.RoadKit.acmp (g := mkF m pc L (w :: v :: S)) C.2.2.1 C.1.1 rfl h1 h2 (pc0 := pc) (pc' := pc') (same := same) rfl (Jvm.hb C.1.2.1 hd) rfl hc ho hp q
/-- a step that hands back a state with the same heap -/
theorem same {L' : Array Slot} {S' : List Value} (st : ∀ {p : Program} {e : Env} {s : State} {m : MethodId} {args : Array Value} {below : List Frame} {meth : Method} {c : Code} {T : State} {locs : List Loc}, p.tables.exec = Jvm.exec → c.code = B → s.vm.findClass y.cls = some m.cls → Z.Warmed39 s.vm → (∀ d ∈ tables_1, d.before a0 Z = true) → T.heap = h → c.maxLocals = ml →
      Stand p l e R s m args below meth c T locs ce sl → ∃ T', Stand p l e R s m args below meth c T' locs ce sl ∧ T'.heap = h ∧ ∀ u, Steps p.tables e below (T'.setTop (mkF m pc' L' S')) u → Steps p.tables e below (T.setTop (mkF m pc L S)) u)
    (K : Wq l nw Z EL a0 n0 y B ml ret R h0 Post fs h ce sl pc' L' S') : Wq l nw Z EL a0 n0 y B ml ret R h0 Post fs h ce sl pc L S := fun p e s m args below meth c T locs vm k C => by
  obtain ⟨⟨hx, hby, hml, hret, hlk, hnm, hown, hh0⟩, ⟨hZ, hw, hEL, hnw⟩, X, hT, ⟨hN, hO⟩, ⟨hS, hk⟩, hC, hF⟩ := C
  obtain ⟨T', X', e', q⟩ := st (s := s.setVm vm) hx hby hown hZ hw hT hml X
  exact (K p e s m args below meth c T' locs vm k ⟨⟨hx, hby, hml, hret, hlk, hnm, hown, hh0⟩, ⟨hZ, hw, hEL, hnw⟩, X', e', ⟨hN, hO⟩, ⟨hS, hk⟩, hC, hF⟩).st q
/-- a step that makes new cells -/
theorem grow {L' : Array Slot} {S' : List Value} {ce' sl' : Nat} {P : Heap → Prop} (st : ∀ {p : Program} {e : Env} {s : State} {m : MethodId} {args : Array Value} {below : List Frame} {meth : Method} {c : Code} {T : State} {locs : List Loc}, p.tables.exec = Jvm.exec → c.code = B → s.vm.findClass y.cls = some m.cls → Z.Warmed39 s.vm → (∀ d ∈ tables_1, d.before a0 Z = true) → T.heap = h → c.maxLocals = ml →
      Stand p l e R s m args below meth c T locs ce sl → ∃ T' h', Stand p l e R s m args below meth c T' locs ce' sl' ∧ T'.heap = h' ∧ Ext h h' ∧ P h' ∧ ∀ u, Steps p.tables e below (T'.setTop (mkF m pc' L' S')) u → Steps p.tables e below (T.setTop (mkF m pc L S)) u)
    {fs' : List Addr} (hfs : ∀ x ∈ fs', x ∈ fs ∨ x = h.size) (hlt : ∀ h', Ext h h' → P h' → h.size < h'.size) (K : ∀ h', Ext h h' → P h' → Wq l nw Z EL a0 n0 y B ml ret R h0 Post fs' h' ce' sl' pc' L' S') : Wq l nw Z EL a0 n0 y B ml ret R h0 Post fs h ce sl pc L S := fun p e s m args below meth c T locs vm k C => by
  obtain ⟨⟨hx, hby, hml, hret, hlk, hnm, hown, hh0⟩, ⟨hZ, hw, hEL, hnw⟩, X, hT, ⟨hN, hO⟩, ⟨hS, hk⟩, hC, hF⟩ := C
  obtain ⟨T', h', X', e', E, hP, q⟩ := st (s := s.setVm vm) hx hby hown hZ hw hT hml X
  have hC' := hC.trans (CHr.ext E hC.1)
  refine (K h' E hP p e s m args below meth c T' locs vm k ⟨⟨hx, hby, hml, hret, hlk, hnm, hown, hh0⟩, ⟨hZ, hw, hEL, hnw⟩, X', e', ⟨hN, hO.ext E⟩, ⟨hS, Nat.le_trans hk E.1⟩, hC', fun x q => ?_⟩).st q
  rcases hfs x q with r | rfl
  · exact ⟨(hF x r).1, Nat.lt_of_lt_of_le (hF x r).2.1 E.1, Safe.ext E hC.1 (hF x r).2.2⟩
  · exact ⟨by have := hO.2.1; rw [hO.1] at this; exact this, hlt h' E hP, Safe.ext E hC.1 (Safe.new (Nat.le_refl _))⟩
/-- a step that writes one slot -/
theorem wrote {S' : List Value} {a : Addr} {j : Nat} {v : Value} (st : ∀ {p : Program} {e : Env} {s : State} {m : MethodId} {args : Array Value} {below : List Frame} {meth : Method} {c : Code} {T : State} {locs : List Loc}, p.tables.exec = Jvm.exec → c.code = B → s.vm.findClass y.cls = some m.cls → meth.name = y.name → Z.Warmed39 s.vm → (∀ d ∈ tables_1, d.before a0 Z = true) → T.heap = h →
      Stand p l e R s m args below meth c T locs ce sl → ∃ T' h', Stand p l e R s m args below meth c T' (locs ++ [⟨a, j⟩]) ce sl ∧ T'.heap = h' ∧ Wr h h' a j v ∧ ∀ u, Steps p.tables e below (T'.setTop (mkF m pc' L S')) u → Steps p.tables e below (T.setTop (mkF m pc L S)) u)
    (hf : a ∈ fs) (K : ∀ h', Wr h h' a j v → Wq l nw Z EL a0 n0 y B ml ret R h0 Post fs h' ce sl pc' L S') : Wq l nw Z EL a0 n0 y B ml ret R h0 Post fs h ce sl pc L S := fun p e s m args below meth c T locs vm k C => by
  obtain ⟨⟨hx, hby, hml, hret, hlk, hnm, hown, hh0⟩, ⟨hZ, hw, hEL, hnw⟩, X, hT, ⟨hN, hO⟩, ⟨hS, hk⟩, hC, hF⟩ := C
  obtain ⟨T', h', X', e', W', q⟩ := st (s := s.setVm vm) hx hby hown hnm hZ hw hT X
  have hsf := (hF a hf).2.2
  have hsz : h'.size = h.size := W'.size
  exact (K h' W' p e s m args below meth c T' _ vm k ⟨⟨hx, hby, hml, hret, hlk, hnm, hown, hh0⟩, ⟨hZ, hw, hEL, hnw⟩, X', e', ⟨Fr.snoc X' hN (hF a hf).1, hO.wr W' (hF a hf).1⟩, ⟨hS, (by rw [hsz]; exact hk)⟩, hC.trans (CHr.wr W' hsf hC.1), fun x r => ⟨(hF x r).1, by rw [hsz]; exact (hF x r).2.1, Safe.wr W' hsf hC.1 (hF x r).2.2⟩⟩).st q
theorem wat {d : Jvm.Cond} (hw : ∀ d ∈ tables_1, d.before a0 Z = true) {i : Nat} (h : tables_1[i]? = some d) : d.before a0 Z = true := hw _ (List.mem_of_getElem? h)
theorem getfield {i ix : Nat} {C n d : String} {a : Addr} {v : Value} (hd : decode B pc = .ok (.getfield ix, 3)) (w : tables_1[i]? = some (.fieldLink y.cls ix C n d)) (F : Fld Z h a C n d v) (hp : pc + 3 = pc') (K : Wq l nw Z EL a0 n0 y B ml ret R h0 Post fs h ce sl pc' L (v :: S)) : Wq l nw Z EL a0 n0 y B ml ret R h0 Post fs h ce sl pc L (.ref a :: S) :=
  same (fun hx hby hown hZ hw hT _ X => by subst hp; exact getF X hx hZ hown (host := "") (Or.inl (wat hw w)) Via.refl hT F (g := mkF _ pc L (.ref a :: S)) rfl rfl (Jvm.hb hby hd)) K
theorem getstatic {i ix : Nat} {C n d : String} {v : Value} (hd : decode B pc = .ok (.getstatic ix, 3)) (w : tables_1[i]? = some (.fieldLink y.cls ix C n d)) (F : Sta Z h C n d v) (hp : pc + 3 = pc') (K : Wq l nw Z EL a0 n0 y B ml ret R h0 Post fs h ce sl pc' L (v :: S)) : Wq l nw Z EL a0 n0 y B ml ret R h0 Post fs h ce sl pc L S :=
  same (fun hx hby hown hZ hw hT _ X => by subst hp; exact getS2 X hx hZ hown (host := "") (Or.inl (wat hw w)) Via.refl hT F (g := mkF _ pc L S) rfl (Jvm.hb hby hd)) K
theorem putfield {i i2 i3 ix kk : Nat} {C O n d : String} {ty : FieldType} {a : Addr} {v v' old : Value} (hd : decode B pc = .ok (.putfield ix, 3)) (w : tables_1[i]? = some (.fieldLink y.cls ix O n d))
    (w2 : tables_1[i2]? = some (.lays C O n d) ∨ (tables_1[i2]? = some (.laysFinal C O n d) ∧ y.cls = O ∧ y.name = "<init>")) (w3 : tables_1[i3]? = some (.instantiable C kk))
    (F : Fld Z h a O n d old) (E : Exa Z h a C) (hty : parseFieldDescriptor d = some ty) (hn : narrow ty v = v') (hfit : fits ty v' = true) (hf : a ∈ fs) (hp : pc + 3 = pc')
    (K : ∀ h', Wr h h' a (Jvm.RoadKit.slotOf Z O n d) v' → Wq l nw Z EL a0 n0 y B ml ret R h0 Post fs h' ce sl pc' L S) : Wq l nw Z EL a0 n0 y B ml ret R h0 Post fs h ce sl pc L (v :: .ref a :: S) :=
  wrote (fun hx hby hown hnm hZ hw hT X => by subst hp; exact putFN X hx hZ hown (wat hw w) Via.refl hT F E (w2.imp (fun q => wat hw q) fun q => ⟨wat hw q.1, q.2.1, hnm.trans q.2.2⟩) (wat hw w3) hty hn hfit (g := mkF _ pc L (v :: .ref a :: S)) rfl rfl (Jvm.hb hby hd))
    hf K
theorem new {i i2 i3 ix n : Nat} {C : String} (hd : decode B pc = .ok (.new ix, 3)) (w : tables_1[i]? = some (.classLink y.cls ix C)) (w2 : tables_1[i2]? = some (.instantiable C n)) (w3 : tables_1[i3]? = some (.initialized C)) (hc : ce + 1 ≤ R.cells) (hs : sl + n ≤ R.slots) (hp : pc + 3 = pc')
    (K : ∀ h' a, a = h.size → Ext h h' → Exa Z h' a C → (∀ {O nm d : String} {ty : FieldType}, Laid Z a0 C O nm d → parseFieldDescriptor d = some ty → Fld Z h' a O nm d (defaultValue ty)) → Wq l nw Z EL a0 n0 y B ml ret R h0 Post (a :: fs) h' (ce + 1) (sl + n) pc' L (.ref a :: S)) : Wq l nw Z EL a0 n0 y B ml ret R h0 Post fs h ce sl pc L S :=
  grow (P := fun h' => Exa Z h' h.size C ∧ (∀ {O nm d : String} {ty : FieldType}, Laid Z a0 C O nm d → parseFieldDescriptor d = some ty → Fld Z h' h.size O nm d (defaultValue ty))) (fun hx hby hown hZ hw hT _ X => by
    subst hp
    obtain ⟨T', h', X', e', E, A, D, -, st⟩ := newO X hx hZ hown (wat hw w) (wat hw w2) (wat hw w3) hT (g := mkF _ pc L S) rfl (Jvm.hb hby hd) hc hs
    exact ⟨T', h', X', e', E, ⟨A, D⟩, st⟩) (fs' := h.size :: fs) (fun x q => (List.mem_cons.mp q).symm) (fun h' _ q => q.1.lt) (fun h' E q => K h' _ rfl E q.1 q.2)
theorem newarray {i cap : Nat} {aty : ArrayType} {ty : FieldType} {z : Int32} (hd : decode B pc = .ok (.newarray aty, 2)) (hty : newarray.typeOf aty = ty) (w : tables_1[i]? = some (.arrayClass ty)) (hz : ¬ z < 0) (hcap : z.toNatClampNeg ≤ cap) (hb8 : cap * 8 ≤ 536870912) (hc : ce + 1 ≤ R.cells) (hs : sl + cap ≤ R.slots) (hp : pc + 2 = pc')
    (K : ∀ h' a kc, a = h.size → Ext h h' → Arv Z h' a kc ty z [] (defaultValue ty) → Wq l nw Z EL a0 n0 y B ml ret R h0 Post (a :: fs) h' (ce + 1) (sl + cap) pc' L (.ref a :: S)) : Wq l nw Z EL a0 n0 y B ml ret R h0 Post fs h ce sl pc L (.int z :: S) :=
  grow (P := fun h' => ∃ kc, Arv Z h' h.size kc ty z [] (defaultValue ty)) (fun hx hby hown hZ hw hT _ X => by
    subst hp hty
    obtain ⟨T', h', kc, X', e', E, A, st⟩ := newP X hx hZ (wat hw w) hT (g := mkF _ pc L (.int z :: S)) rfl (Jvm.hb hby hd) rfl hz hcap hb8 hc hs
    exact ⟨T', h', X', e', E, ⟨kc, Arv.new A hz⟩, st⟩) (fs' := h.size :: fs) (fun x q => (List.mem_cons.mp q).symm) (fun h' _ q => q.elim fun kc r => r.lt) (fun h' E q => q.elim fun kc r => K h' _ kc rfl E r)
theorem arraylength {a : Addr} {kc : ClassId} {ty : FieldType} {z : Int32} {vs : List Value} {dv : Value} (hd : decode B pc = .ok (.arraylength, 1)) (F : Arv Z h a kc ty z vs dv) (hp : pc + 1 = pc') (K : Wq l nw Z EL a0 n0 y B ml ret R h0 Post fs h ce sl pc' L (.int z :: S)) : Wq l nw Z EL a0 n0 y B ml ret R h0 Post fs h ce sl pc L (.ref a :: S) :=
  same (fun {p e s m args below meth c T locs} hx hby hown hZ hw hT _ X => by
    subst hp
    obtain ⟨cl, A, -, hsz, hz, -⟩ := F
    refine ⟨T, X, hT, fun u q => X.arraylength hx (by rw [hT]; exact A.1) (State.isArrayOf_alike hZ.alike A.2.1) (g := mkF _ pc L (.ref a :: S)) rfl rfl (Jvm.hb hby hd) u ?_⟩
    rw [len_of hsz hz]; exact q) K
theorem iaload {a : Addr} {kc : ClassId} {z j : Int32} {vs : List Value} {dv v : Value} (hd : decode B pc = .ok (.iaload, 1)) (F : Arv Z h a kc .int z vs dv) (hj : ¬ j < 0 ∧ j < z) (hv : vs.getD j.toNatClampNeg dv = v) (hp : pc + 1 = pc') (K : Wq l nw Z EL a0 n0 y B ml ret R h0 Post fs h ce sl pc' L (v :: S)) : Wq l nw Z EL a0 n0 y B ml ret R h0 Post fs h ce sl pc L (.int j :: .ref a :: S) :=
  same (fun {p e s m args below meth c T locs} hx hby hown hZ hw hT _ X => by
    subst hp
    obtain ⟨cl, A, -, hsz, hz, hH, -⟩ := F
    have hin := inb_of hsz hj
    exact ⟨T, X, hT, fun u q => X.iaload hx (by rw [hT]; exact A.1) (State.isArrayOf_alike hZ.alike A.2.1) A.2.2 hin (hH.at hin hv) (g := mkF _ pc L (.int j :: .ref a :: S)) rfl rfl (Jvm.hb hby hd) u q⟩) K
theorem caload {a : Addr} {kc : ClassId} {z j : Int32} {vs : List Value} {dv v : Value} (hd : decode B pc = .ok (.caload, 1)) (F : Arv Z h a kc .char z vs dv) (hj : ¬ j < 0 ∧ j < z) (hv : vs.getD j.toNatClampNeg dv = v) (hp : pc + 1 = pc') (K : Wq l nw Z EL a0 n0 y B ml ret R h0 Post fs h ce sl pc' L (v :: S)) : Wq l nw Z EL a0 n0 y B ml ret R h0 Post fs h ce sl pc L (.int j :: .ref a :: S) :=
  same (fun {p e s m args below meth c T locs} hx hby hown hZ hw hT _ X => by
    subst hp
    obtain ⟨cl, A, -, hsz, hz, hH, -⟩ := F
    have hin := inb_of hsz hj
    exact ⟨T, X, hT, fun u q => X.caload hx (by rw [hT]; exact A.1) (State.isArrayOf_alike hZ.alike A.2.1) A.2.2 hin (hH.at hin hv) (g := mkF _ pc L (.int j :: .ref a :: S)) rfl rfl (Jvm.hb hby hd) u q⟩) K
theorem baload {a : Addr} {kc : ClassId} {z j : Int32} {vs : List Value} {dv v : Value} (hd : decode B pc = .ok (.baload, 1)) (F : Arv Z h a kc .byte z vs dv) (hj : ¬ j < 0 ∧ j < z) (hv : vs.getD j.toNatClampNeg dv = v) (hp : pc + 1 = pc') (K : Wq l nw Z EL a0 n0 y B ml ret R h0 Post fs h ce sl pc' L (v :: S)) : Wq l nw Z EL a0 n0 y B ml ret R h0 Post fs h ce sl pc L (.int j :: .ref a :: S) :=
  same (fun {p e s m args below meth c T locs} hx hby hown hZ hw hT _ X => by
    subst hp
    obtain ⟨cl, A, -, hsz, hz, hH, -⟩ := F
    have hin := inb_of hsz hj
    exact ⟨T, X, hT, fun u q => X.baloadBytes hx (by rw [hT]; exact A.1) (State.isArrayOf_alike hZ.alike A.2.1) A.2.2 hin (hH.at hin hv) (g := mkF _ pc L (.int j :: .ref a :: S)) rfl rfl (Jvm.hb hby hd) u q⟩) K
theorem laload {a : Addr} {kc : ClassId} {z j : Int32} {vs : List Value} {dv v : Value} (hd : decode B pc = .ok (.laload, 1)) (F : Arv Z h a kc .long z vs dv) (hj : ¬ j < 0 ∧ j < z) (hv : vs.getD j.toNatClampNeg dv = v) (hp : pc + 1 = pc') (K : Wq l nw Z EL a0 n0 y B ml ret R h0 Post fs h ce sl pc' L (v :: S)) : Wq l nw Z EL a0 n0 y B ml ret R h0 Post fs h ce sl pc L (.int j :: .ref a :: S) :=
  same (fun {p e s m args below meth c T locs} hx hby hown hZ hw hT _ X => by
    subst hp
    obtain ⟨cl, A, -, hsz, hz, hH, -⟩ := F
    have hin := inb_of hsz hj
    exact ⟨T, X, hT, fun u q => X.laload hx (by rw [hT]; exact A.1) (State.isArrayOf_alike hZ.alike A.2.1) A.2.2 hin (hH.at hin hv) (g := mkF _ pc L (.int j :: .ref a :: S)) rfl rfl (Jvm.hb hby hd) u q⟩) K
theorem aaload {a : Addr} {kc : ClassId} {ty : FieldType} {z j : Int32} {vs : List Value} {dv v : Value} (hd : decode B pc = .ok (.aaload, 1)) (hty : ty.isReference = true) (F : Arv Z h a kc ty z vs dv) (hj : ¬ j < 0 ∧ j < z) (hv : vs.getD j.toNatClampNeg dv = v) (hp : pc + 1 = pc') (K : Wq l nw Z EL a0 n0 y B ml ret R h0 Post fs h ce sl pc' L (v :: S)) : Wq l nw Z EL a0 n0 y B ml ret R h0 Post fs h ce sl pc L (.int j :: .ref a :: S) :=
  same (fun {p e s m args below meth c T locs} hx hby hown hZ hw hT _ X => by
    subst hp
    obtain ⟨cl, A, -, hsz, hz, hH, -⟩ := F
    have hin := inb_of hsz hj
    exact ⟨T, X, hT, fun u q => X.aaload hx (by rw [hT]; exact A.1) (State.isArrayOf_alike hZ.alike A.2.1) hty A.2.2 hin (hH.at hin hv) (g := mkF _ pc L (.int j :: .ref a :: S)) rfl rfl (Jvm.hb hby hd) u q⟩) K
theorem castore {a : Addr} {kc : ClassId} {z j x : Int32} {vs : List Value} {dv : Value} (hd : decode B pc = .ok (.castore, 1)) (F : Arv Z h a kc .char z vs dv) (hj : ¬ j < 0 ∧ j < z) (hf : a ∈ fs) (hl : j.toNatClampNeg < vs.length) (hp : pc + 1 = pc')
    (K : ∀ h', Wr h h' a j.toNatClampNeg (.int (nar .char x)) → Arv Z h' a kc .char z (vs.set j.toNatClampNeg (.int (nar .char x))) dv → Wq l nw Z EL a0 n0 y B ml ret R h0 Post fs h' ce sl pc' L S) : Wq l nw Z EL a0 n0 y B ml ret R h0 Post fs h ce sl pc L (.int x :: .int j :: .ref a :: S) := by
  obtain ⟨cl, A, q1, hsz, hz, hH, hG⟩ := F
  have hin := inb_of hsz hj
  exact wrote (fun hx hby hown hnm hZ hw hT X => by subst hp; exact stC X hx hZ hT A hin (g := mkF _ pc L (.int x :: .int j :: .ref a :: S)) rfl rfl (Jvm.hb hby hd))
    hf (fun h' W' => K h' W' (Arv.set A q1 hsz hz hH hG (fits_nar_char _) W' _ rfl hl))
theorem bastore {a : Addr} {kc : ClassId} {z j x : Int32} {vs : List Value} {dv : Value} (hd : decode B pc = .ok (.bastore, 1)) (F : Arv Z h a kc .byte z vs dv) (hj : ¬ j < 0 ∧ j < z) (hf : a ∈ fs) (hl : j.toNatClampNeg < vs.length) (hp : pc + 1 = pc')
    (K : ∀ h', Wr h h' a j.toNatClampNeg (.int (nar .byte x)) → Arv Z h' a kc .byte z (vs.set j.toNatClampNeg (.int (nar .byte x))) dv → Wq l nw Z EL a0 n0 y B ml ret R h0 Post fs h' ce sl pc' L S) : Wq l nw Z EL a0 n0 y B ml ret R h0 Post fs h ce sl pc L (.int x :: .int j :: .ref a :: S) := by
  obtain ⟨cl, A, q1, hsz, hz, hH, hG⟩ := F
  have hin := inb_of hsz hj
  exact wrote (fun hx hby hown hnm hZ hw hT X => by subst hp; exact stB X hx hZ hT A hin (g := mkF _ pc L (.int x :: .int j :: .ref a :: S)) rfl rfl (Jvm.hb hby hd))
    hf (fun h' W' => K h' W' (Arv.set A q1 hsz hz hH hG (fits_nar_byte _) W' _ rfl hl))
theorem iastore {a : Addr} {kc : ClassId} {z j x : Int32} {vs : List Value} {dv : Value} (hd : decode B pc = .ok (.iastore, 1)) (F : Arv Z h a kc .int z vs dv) (hj : ¬ j < 0 ∧ j < z) (hf : a ∈ fs) (hl : j.toNatClampNeg < vs.length) (hp : pc + 1 = pc')
    (K : ∀ h', Wr h h' a j.toNatClampNeg (.int x) → Arv Z h' a kc .int z (vs.set j.toNatClampNeg (.int x)) dv → Wq l nw Z EL a0 n0 y B ml ret R h0 Post fs h' ce sl pc' L S) : Wq l nw Z EL a0 n0 y B ml ret R h0 Post fs h ce sl pc L (.int x :: .int j :: .ref a :: S) := by
  obtain ⟨cl, A, q1, hsz, hz, hH, hG⟩ := F
  have hin := inb_of hsz hj
  exact wrote (fun hx hby hown hnm hZ hw hT X => by subst hp; exact stI X hx hZ hT A hin (g := mkF _ pc L (.int x :: .int j :: .ref a :: S)) rfl rfl (Jvm.hb hby hd))
    hf (fun h' W' => K h' W' (Arv.set A q1 hsz hz hH hG (rfl) W' _ rfl hl))
theorem cloneArr {i1 i2 i3 i4 i5 i6 ix Wd cap : Nat} {ad : String} {a : Addr} {kc : ClassId} {ty : FieldType} {z : Int32} {vs : List Value} {dv : Value} (hd : decode B pc = .ok (.invokevirtual ix, 3)) (w1 : tables_1[i1]? = some (.methodLink y.cls ix ⟨ad, "clone", "()Ljava/lang/Object;"⟩)) (w2 : tables_1[i2]? = some (.sameMethod ad "java/lang/Object" "clone" "()Ljava/lang/Object;")) (w3 : tables_1[i3]? = some (.native ⟨"java/lang/Object", "clone", "()Ljava/lang/Object;"⟩)) (w4 : tables_1[i4]? = some (.instanceMethod ⟨"java/lang/Object", "clone", "()Ljava/lang/Object;"⟩)) (w5 : tables_1[i5]? = some (.selects ad ⟨ad, "clone", "()Ljava/lang/Object;"⟩ ⟨"java/lang/Object", "clone", "()Ljava/lang/Object;"⟩)) (w6 : tables_1[i6]? = some (.castable ad "java/lang/Cloneable"))
    (F : Arv Z h a kc ty z vs dv) (E : Exa Z h a ad) (hsz : L.size = ml) (hfr : 1 ≤ R.frames) (hW : (S.map fun v => v.category).sum ≤ Wd) (hl : Wd + 14 ≤ R.locals) (hcap : z.toNatClampNeg ≤ cap) (hc : ce + 1 ≤ R.cells) (hs : sl + cap ≤ R.slots) (hp : pc + 3 = pc')
    (K : ∀ h' r, r = h.size → Ext h h' → Arv Z h' r kc ty z vs dv → Exa Z h' r ad → Wq l nw Z EL a0 n0 y B ml ret R h0 Post (r :: fs) h' (ce + 1) (sl + cap) pc' L (.ref r :: S)) : Wq l nw Z EL a0 n0 y B ml ret R h0 Post fs h ce sl pc L (.ref a :: S) :=
  grow (P := fun h' => Arv Z h' h.size kc ty z vs dv ∧ Exa Z h' h.size ad) (fun hx hby hown hZ hw hT hml X => by
    subst hp
    obtain ⟨T', h', X', e', Ex, A, E', st⟩ := cloneH X hx hZ hown (wat hw w1) (wat hw w2) (wat hw w3) (wat hw w4) (wat hw w5) (wat hw w6) hT F.arh E (g := mkF _ pc L (.ref a :: S)) rfl (hsz.trans hml.symm) rfl (Jvm.hb hby hd) hfr (W := Wd) (by show 2 * 0 + _ ≤ _; omega) hl hcap hc hs
    exact ⟨T', h', X', e', Ex, ⟨A, E'⟩, st⟩) (fs' := h.size :: fs) (fun x q => (List.mem_cons.mp q).symm) (fun h' _ q => q.1.lt) (fun h' Ex q => K h' _ rfl Ex q.1 q.2)
theorem checkcast {i ix : Nat} {C : String} {a : Addr} (hd : decode B pc = .ok (.checkcast ix, 3)) (w : tables_1[i]? = some (.classLink y.cls ix C)) (F : Ins Z h a C true) (hp : pc + 3 = pc') (K : Wq l nw Z EL a0 n0 y B ml ret R h0 Post fs h ce sl pc' L (.ref a :: S)) : Wq l nw Z EL a0 n0 y B ml ret R h0 Post fs h ce sl pc L (.ref a :: S) :=
  same (fun hx hby hown hZ hw hT _ X => by subst hp; exact castY X hx hZ hown (wat hw w) hT F (g := mkF _ pc L (.ref a :: S)) rfl rfl (Jvm.hb hby hd)) K
theorem checkcastNull {ix : Nat} (hd : decode B pc = .ok (.checkcast ix, 3)) (hp : pc + 3 = pc') (K : Wq l nw Z EL a0 n0 y B ml ret R h0 Post fs h ce sl pc' L (.null :: S)) : Wq l nw Z EL a0 n0 y B ml ret R h0 Post fs h ce sl pc L (.null :: S) :=
  same (fun {p e s m args below meth c T locs} hx hby hown hZ hw hT _ X => by subst hp; exact ⟨T, X, hT, X.checkcastNull hx (g := mkF _ pc L (.null :: S)) rfl rfl (Jvm.hb hby hd)⟩) K
theorem instanceofNull {ix : Nat} (hd : decode B pc = .ok (.instanceof ix, 3)) (hp : pc + 3 = pc') (K : Wq l nw Z EL a0 n0 y B ml ret R h0 Post fs h ce sl pc' L (.int 0 :: S)) : Wq l nw Z EL a0 n0 y B ml ret R h0 Post fs h ce sl pc L (.null :: S) :=
  same (fun {p e s m args below meth c T locs} hx hby hown hZ hw hT _ X => by subst hp; exact ⟨T, X, hT, X.instanceofNull hx (g := mkF _ pc L (.null :: S)) rfl rfl (Jvm.hb hby hd)⟩) K
theorem instanceofY {i ix : Nat} {C : String} {a : Addr} (hd : decode B pc = .ok (.instanceof ix, 3)) (w : tables_1[i]? = some (.classLink y.cls ix C)) (F : Ins Z h a C true) (hp : pc + 3 = pc') (K : Wq l nw Z EL a0 n0 y B ml ret R h0 Post fs h ce sl pc' L (.int 1 :: S)) : Wq l nw Z EL a0 n0 y B ml ret R h0 Post fs h ce sl pc L (.ref a :: S) :=
  same (fun hx hby hown hZ hw hT _ X => by subst hp; exact instY X hx hZ hown (wat hw w) hT F (g := mkF _ pc L (.ref a :: S)) rfl rfl (Jvm.hb hby hd)) K
theorem instanceofN {i ix : Nat} {C D : String} {a : Addr} (hd : decode B pc = .ok (.instanceof ix, 3)) (w : tables_1[i]? = some (.classLink y.cls ix C)) (E : Exa Z h a D) (F : ∃ c t, Z.vm.findClass D = some c ∧ Z.vm.findClass C = some t ∧ Z.vm.assignable c t = false) (hp : pc + 3 = pc') (K : Wq l nw Z EL a0 n0 y B ml ret R h0 Post fs h ce sl pc' L (.int 0 :: S)) : Wq l nw Z EL a0 n0 y B ml ret R h0 Post fs h ce sl pc L (.ref a :: S) :=
  same (fun hx hby hown hZ hw hT _ X => by subst hp; exact instNo X hx hZ hown (wat hw w) hT E F (g := mkF _ pc L (.ref a :: S)) rfl rfl (Jvm.hb hby hd)) K
theorem ldcInt {i ix : Nat} {v : Int32} (hd : decode B pc = .ok (.ldc ix, 2)) (w : tables_1[i]? = some (.constant y.cls ix v)) (hp : pc + 2 = pc') (K : Wq l nw Z EL a0 n0 y B ml ret R h0 Post fs h ce sl pc' L (.int v :: S)) : Wq l nw Z EL a0 n0 y B ml ret R h0 Post fs h ce sl pc L S :=
  same (fun {p e s m args below meth c T locs} hx hby hown hZ hw hT _ X => by subst hp; exact ⟨T, X, hT, X.ldcInt hx hown (mvT hZ (wat hw w)) (g := mkF _ pc L S) rfl (Jvm.hb hby hd)⟩) K
theorem ldc2Long {i ix : Nat} {v : Int64} (hd : decode B pc = .ok (.ldc2_w ix, 3)) (w : tables_1[i]? = some (.constantLong y.cls ix v)) (hp : pc + 3 = pc') (K : Wq l nw Z EL a0 n0 y B ml ret R h0 Post fs h ce sl pc' L (.long v :: S)) : Wq l nw Z EL a0 n0 y B ml ret R h0 Post fs h ce sl pc L S :=
  same (fun {p e s m args below meth c T locs} hx hby hown hZ hw hT _ X => by subst hp; exact ⟨T, X, hT, X.ldc2Long hx hown (mvT hZ (wat hw w)) (g := mkF _ pc L S) rfl (Jvm.hb hby hd)⟩) K
theorem ldc2Double {i ix : Nat} {v : UInt64} (hd : decode B pc = .ok (.ldc2_w ix, 3)) (w : tables_1[i]? = some (.constantDouble y.cls ix v)) (hp : pc + 3 = pc') (K : Wq l nw Z EL a0 n0 y B ml ret R h0 Post fs h ce sl pc' L (.double v :: S)) : Wq l nw Z EL a0 n0 y B ml ret R h0 Post fs h ce sl pc L S :=
  same (fun {p e s m args below meth c T locs} hx hby hown hZ hw hT _ X => by subst hp; exact ⟨T, X, hT, X.ldc2DoubleC hx hown (mvT hZ (wat hw w)) (g := mkF _ pc L S) rfl (Jvm.hb hby hd)⟩) K
theorem initObj {i i2 i3 ix Wd : Nat} {a : Addr} (hd : decode B pc = .ok (.invokespecial ix, 3)) (w : tables_1[i]? = some (.methodLink y.cls ix Lib.objectInit)) (w2 : tables_1[i2]? = some (.instanceMethod Lib.objectInit)) (w3 : tables_1[i3]? = some (.code Lib.objectInit object_method_1_code 1 none))
    (hsz : L.size = ml) (hfr : 1 ≤ R.frames) (hW : (S.map fun v => v.category).sum ≤ Wd) (hl : Wd + 12 ≤ R.locals) (hp : pc + 3 = pc') (K : Wq l nw Z EL a0 n0 y B ml ret R h0 Post fs h ce sl pc' L S) : Wq l nw Z EL a0 n0 y B ml ret R h0 Post fs h ce sl pc L (.ref a :: S) :=
  same (fun {p e s m args below meth c T locs} hx hby hown hZ hw hT hml X => by
    subst hp
    exact initO X hx hZ hown (wat hw w) (wat hw w2) (wat hw w3) hT (g := mkF _ pc L (.ref a :: S)) rfl (hsz.trans hml.symm) rfl (Jvm.hb hby hd) hfr (W := Wd) (by show 2 * 0 + _ ≤ _; omega) hl) K
/-- ldc of a String constant that EL names, its text read -/
theorem ldcStr {i ix n : Nat} {text : String} {vs : List Value} {z : Int32} (hd : decode B pc = .ok (.ldc ix, 2)) (w : tables_1[i]? = some (.stringLink y.cls ix text)) (hwS : ∀ d ∈ Bundle.stringAtoms, d ∈ tables_1) (hmem : (y.cls, ix) ∈ EL) (hnn : nw = false)
    (ht : (∀ c ∈ text.toList, c.toNat < 256) ∧ text.toList.map (fun c => Value.int (Jvm.Lit.byteI c.toNat.toUInt16)) = vs) (hz : ¬ z < 0) (hl : z.toNatClampNeg = vs.length) (hn : 4 * text.toList.length ≤ n) (hbig : n ≤ 536870912) (hc : ce + 2 ≤ R.cells) (hs : sl + (n + 4) ≤ R.slots) (hp : pc + 2 = pc')
    (K : ∀ h' a b kc, Ext h h' → Exa Z h' a "java/lang/String" → Fld Z h' a "java/lang/String" "coder" "B" (.int 0) → Fld Z h' a "java/lang/String" "value" "[B" (.ref b) → Arv Z h' b kc .byte z vs (.int 0) → (∀ x ∈ fs, x ≠ a ∧ x ≠ b) → Wq l nw Z EL a0 n0 y B ml ret R h0 Post fs h' (ce + 2) (sl + (n + 4)) pc' L (.ref a :: S)) : Wq l nw Z EL a0 n0 y B ml ret R h0 Post fs h ce sl pc L S := fun p e s m args below meth c T locs vm k C => by
  obtain ⟨⟨hx, hby, hml, hret, hlk, hnm, hown, hh0⟩, ⟨hZ, hw, hEL, hnw⟩, X, hT, ⟨hN, hO⟩, ⟨hS, hk⟩, hC, hF⟩ := C
  subst hp
  obtain ⟨a, T', h', k1, b, kc, X', e', E, hS', hk', hZ', hown', A, Co, Va, Ar, -, -, hC', -, hne, st⟩ := ldcCH X hx hZ hown (wat hw w) (fun d q => hw d (hwS d q)) hT hS hk hEL hmem hC.1 ht hz hl (g := mkF _ pc L S) rfl (Jvm.hb hby hd) hn hbig hc hs
  refine (K h' a b kc E A Co Va Ar (fun x r => hne x (hC'.safe (hF x r).2.1 (hF x r).2.2)) p e s m args below meth c T' locs T'.vm k1 ⟨⟨hx, hby, hml, hret, hlk, hnm, hown', hh0⟩, ⟨hZ', hw, hEL, fun q => by rw [hnn] at q; cases q⟩, X', e', ⟨hN, hO.ext E⟩, ⟨hS', hk'⟩, hC.trans hC', fun x r => ⟨(hF x r).1, Nat.lt_of_lt_of_le (hF x r).2.1 E.1, hC'.safe (hF x r).2.1 (hF x r).2.2⟩⟩).st st
/-- ldc of any String constant, nothing said of its text -/
theorem ldcAny {i ix n : Nat} {text : String} (hd : decode B pc = .ok (.ldc ix, 2)) (w : tables_1[i]? = some (.stringLink y.cls ix text)) (hwS : ∀ d ∈ Bundle.stringAtoms, d ∈ tables_1) (hnn : nw = false)
    (hn : 4 * text.toList.length ≤ n) (hbig : n ≤ 536870912) (hc : ce + 2 ≤ R.cells) (hs : sl + (n + 4) ≤ R.slots) (hp : pc + 2 = pc')
    (K : ∀ h' a, Ext h h' → Wq l nw Z EL a0 n0 y B ml ret R h0 Post fs h' (ce + 2) (sl + (n + 4)) pc' L (.ref a :: S)) : Wq l nw Z EL a0 n0 y B ml ret R h0 Post fs h ce sl pc L S := fun p e s m args below meth c T locs vm k C => by
  obtain ⟨⟨hx, hby, hml, hret, hlk, hnm, hown, hh0⟩, ⟨hZ, hw, hEL, hnw⟩, X, hT, ⟨hN, hO⟩, ⟨hS, hk⟩, hC, hF⟩ := C
  subst hp
  obtain ⟨a, T', h', k1, X', e', E, hS', hk', hZ', hown', hC', -, st⟩ := ldcOH X hx hZ hown (wat hw w) (fun d q => hw d (hwS d q)) hT hS hk hEL hC.1 (g := mkF _ pc L S) rfl (Jvm.hb hby hd) hn hbig hc hs
  refine (K h' a E p e s m args below meth c T' locs T'.vm k1 ⟨⟨hx, hby, hml, hret, hlk, hnm, hown', hh0⟩, ⟨hZ', hw, hEL, fun q => by rw [hnn] at q; cases q⟩, X', e', ⟨hN, hO.ext E⟩, ⟨hS', hk'⟩, hC.trans hC', fun x r => ⟨(hF x r).1, Nat.lt_of_lt_of_le (hF x r).2.1 E.1, hC'.safe (hF x r).2.1 (hF x r).2.2⟩⟩).st st
/-- the end of a walk -/
theorem leaves {v : Option Value} (hv : ret = none → v = none) (hc : ce ≤ R.cells) (hs : sl ≤ R.slots) (hP : Post v h) (st : ∀ {p : Program} {e : Env} {s : State} {m : MethodId} {args : Array Value} {below : List Frame} {meth : Method} {c : Code} {T : State} {locs : List Loc} {fs : List Frame}, p.tables.exec = Jvm.exec → c.code = B → meth.sig.returnType = ret →
      Stand p l e R s m args below meth c T locs ce sl → (∀ (f : JFrame) (acts : List Action), f.method = m → f.locked = none → f.entered = [] → (doReturn e (T.setTop f) acts v).1 = T.setFrames fs) → Steps p.tables e below (T.setTop (mkF m pc L S)) (T.setFrames fs)) : Wq l nw Z EL a0 n0 y B ml ret R h0 Post fs h ce sl pc L S := fun p e s m args below meth c T locs vm k C => by
  obtain ⟨⟨hx, hby, hml, hret, hlk, hnm, hown, hh0⟩, ⟨hZ, hw, hEL, hnw⟩, X, hT, ⟨hN, hO⟩, ⟨hS, hk⟩, hC, hF⟩ := C
  obtain ⟨fs', h1, h2, h3, hEnd⟩ := X.leaveW hS (by rw [hT]; exact hk) (v := v) (fun q => hv (hret.symm.trans q)) hlk
  have hwm : (s.setVm vm).WarmedH T.vm := X.warmed
  refine ⟨T.setFrames fs', .returned v, st hx hby hret X h1, h2, h3, v, locs, rfl, ?_, ⟨hN, ?_⟩, ?_, ⟨hEnd.1, hEnd.2.1, hEnd.2.2.1, hEnd.2.2.2.mono hc hs⟩, fun q => ?_⟩
  · show Post v T.heap
    rw [hT]; exact hP
  · show Old Z n0 T.heap
    rw [hT]; exact hO
  · show CHr Z EL s.vm h0 T.vm T.heap
    rw [hT]; exact hC.trans (CHv.at X hZ hEL hC.1)
  · show s.WarmedH T.vm
    obtain ⟨q1, -⟩ := hnw q
    subst q1; exact hwm
theorem retV (hd : decode B pc = .ok (.return_, 1)) (hr : ret = none) (hc : ce ≤ R.cells) (hs : sl ≤ R.slots) (hP : Post none h) : Wq l nw Z EL a0 n0 y B ml ret R h0 Post fs h ce sl pc L [] :=
  leaves (fun _ => rfl) hc hs hP (fun hx hby hret X hl => X.returnOut hx (hret.trans hr) (Jvm.hb hby hd) hl)
theorem retA {v : Value} {t : FieldType} (hd : decode B pc = .ok (.areturn, 1)) (hr : ret = some t) (ht : t.isReference = true) (hv : v.isRef = true) (hc : ce ≤ R.cells) (hs : sl ≤ R.slots) (hP : Post (some v) h) : Wq l nw Z EL a0 n0 y B ml ret R h0 Post fs h ce sl pc L (v :: S) :=
  leaves (fun q => by rw [hr] at q; cases q) hc hs hP (fun hx hby hret X hl => retOut X hx (hret.trans hr) (by rcases ref_cases hv with rfl | ⟨q, rfl⟩ <;> cases t <;> rfl) (Or.inr (Or.inr (Or.inr (Or.inr ⟨rfl, ht, hv⟩)))) (Jvm.hb hby hd) hl)
theorem retI {z : Int32} {t : FieldType} (hd : decode B pc = .ok (.ireturn, 1)) (hr : ret = some t) (ht : t = .int ∨ t = .boolean ∨ t = .byte ∨ t = .char ∨ t = .short) (hn : narrow t (.int z) = .int z) (hc : ce ≤ R.cells) (hs : sl ≤ R.slots) (hP : Post (some (.int z)) h) : Wq l nw Z EL a0 n0 y B ml ret R h0 Post fs h ce sl pc L (.int z :: S) :=
  leaves (fun q => by rw [hr] at q; cases q) hc hs hP (fun hx hby hret X hl => retOut X hx (hret.trans hr) hn (Or.inl ⟨rfl, ht, z, rfl⟩) (Jvm.hb hby hd) hl)
theorem retJ {z : Int64} (hd : decode B pc = .ok (.lreturn, 1)) (hr : ret = some .long) (hc : ce ≤ R.cells) (hs : sl ≤ R.slots) (hP : Post (some (.long z)) h) : Wq l nw Z EL a0 n0 y B ml ret R h0 Post fs h ce sl pc L (.long z :: S) :=
  leaves (fun q => by rw [hr] at q; cases q) hc hs hP (fun hx hby hret X hl => retOut X hx (hret.trans hr) rfl (Or.inr (Or.inl ⟨rfl, rfl, z, rfl⟩)) (Jvm.hb hby hd) hl)
theorem retD {z : UInt64} (hd : decode B pc = .ok (.dreturn, 1)) (hr : ret = some .double) (hc : ce ≤ R.cells) (hs : sl ≤ R.slots) (hP : Post (some (.double z)) h) : Wq l nw Z EL a0 n0 y B ml ret R h0 Post fs h ce sl pc L (.double z :: S) :=
  leaves (fun q => by rw [hr] at q; cases q) hc hs hP (fun hx hby hret X hl => retOut X hx (hret.trans hr) rfl (Or.inr (Or.inr (Or.inl ⟨rfl, rfl, z, rfl⟩))) (Jvm.hb hby hd) hl)
end Rules
section Calls
variable {l : Launch} {nw : Bool} {Z : State} {EL : List (String × Nat)} {a0 : Array Value} {n0 : Nat} {y : MethodName} {B : ByteArray} {ml : Nat} {ret : Option FieldType} {R : Room} {h0 : Heap} {Post : Option Value → Heap → Prop} {fs : List Addr} {h : Heap} {ce sl pc pc' : Nat} {L : Array Slot} {S : List Value}
def Met (l : Launch) (nw : Bool) (Z : State) (EL : List (String × Nat)) (n0 : Nat) (y : MethodName) (B : ByteArray) (ml : Nat) (ret : Option FieldType) (R : Room) (ws : List Jvm.Cond) (as' : Array Value) (fs : List Addr) (h : Heap) (Post : Option Value → Heap → Prop) : Prop :=
  MetFree l y (head1 (Jvm.Cond.code y B ml ret :: ws) R) (fun a U => a = as' ∧ Z.Warmed39 U.vm ∧ U.heap = h ∧ CHv Z EL U.vm h ∧ Old Z n0 h ∧ ∀ x ∈ fs, n0 ≤ x ∧ x < h.size ∧ Safe Z EL U.vm h x) (fun _ _ _ _ _ => True)
    (fun _ U o U' => ∃ v L, o = .returned v ∧ (Post v U'.heap ∧ Fr n0 L ∧ Old Z n0 U'.heap) ∧ CHr Z EL U.vm U.heap U'.vm U'.heap ∧ ReturnedEndW U o U' L R.cells R.slots ∧ (nw = true → U.WarmedH U'.vm))
theorem Met.mono {ws : List Jvm.Cond} {as' : Array Value} {Post' : Option Value → Heap → Prop} (M : Met l nw Z EL n0 y B ml ret R ws as' fs h Post) (hP : ∀ v h', Post v h' → Post' v h') : Met l nw Z EL n0 y B ml ret R ws as' fs h Post' :=
  MetFree.mono M (fun _ _ q => q) (fun _ _ _ _ _ q => q) (fun _ _ _ _ _ ⟨v, L, h1, ⟨h2, h3⟩, h4⟩ => ⟨v, L, h1, ⟨hP v _ h2, h3⟩, h4⟩)
theorem Met.of_body {ws : List Jvm.Cond} {as' : Array Value} {L0 : Array Slot} (hpl : plainFor y = true) (hent : ∀ m, entryFrame m as' ml = mkF m 0 L0 []) (hw : ∀ d ∈ tables_1, d.before a0 Z = true) (hEL : EW Z a0 EL) (hnw : nw = true → EL = [])
    (K : Wq l nw Z EL a0 n0 y B ml ret R h Post fs h 0 0 0 L0 []) : Met l nw Z EL n0 y B ml ret R ws as' fs h Post := by
  refine MetFree.of_bodySF hpl hisR ?_
  intro p e s m args below meth c s₁ Bd hml0 hP hK
  obtain ⟨rfl, hZ, hh, hCv, hO, hF⟩ := hP
  have X0 : Stand p l e R (s.setVm s.vm) m args below meth c s₁ [] 0 0 := Stand.of_body Bd
  have e0 : s₁.heap = h := by rw [← hh, Bd.state]; rfl
  have hml : c.maxLocals = ml := hml0
  obtain ⟨s₂, o, h1, h2, h3, v, L, h4, h5, h6, h7, h8, h9⟩ := K p e s m args below meth c s₁ [] s.vm 0 ⟨⟨Bd.exec, Bd.bytes, hml, Bd.returns, BodyLoose.notSynchronized Bd, (name_of_methodNamed Bd.named Bd.method).1, findClass_of_methodNamed Bd.named, hh⟩, ⟨hZ, hw, hEL, fun q => ⟨rfl, hnw q⟩⟩, X0, e0, ⟨Fr.nil n0, hO⟩, ⟨(State.WarmedH.refl s).since 0, Nat.zero_le _⟩, CHr.refl hCv, hF⟩
  exact ⟨s₂, o, castTop (hent m) h1, h2, h3, v, L, h4, ⟨h5, h6⟩, by rw [hh]; exact h7, h8, h9⟩
def Kd (l : Launch) (Z : State) (a0 : Array Value) (y : MethodName) (B : ByteArray) (ml : Nat) (R : Room) (h : Heap) (ce sl pc : Nat) (L : Array Slot) (S : List Value) (z : MethodName) (len Wd : Nat) (as' : Array Value) (S' : List Value) : Prop :=
  ∀ (p : Program) (e : Env) (s : State) (m : MethodId) (args : Array Value) (below : List Frame) (meth : Method) (c : Code) (T : State) (locs : List Loc), p.tables.exec = Jvm.exec → c.code = B → s.vm.findClass y.cls = some m.cls → Z.Warmed39 s.vm → (∀ d ∈ tables_1, d.before a0 Z = true) → T.heap = h → c.maxLocals = ml → Stand p l e R s m args below meth c T locs ce sl →
    (∀ (Pre : Pt → Array Value → Prop) (Po : Pt → Array Value → Option Value → Pt → Prop), Back l R p e below s args z len Wd Pre Po → (∀ vm₁, s.WarmedH vm₁ → Pre ⟨T.setVm vm₁, locs, ce, sl⟩ as') →
      ∃ (v : Option Value) (vm₁ : Vm) (A : Pt), s.WarmedH vm₁ ∧ Stand p l e R s m args below meth c A.U A.locs A.cells A.slots ∧ Po ⟨T.setVm vm₁, locs, ce, sl⟩ as' v A ∧ ∀ u, Steps p.tables e below (A.U.setTop (mkF m (pc + len) L (v.toList ++ S'))) u → Steps p.tables e below (T.setTop (mkF m pc L S)) u) ∧
    (∀ (Pre : Pt → Array Value → Prop) (Po : Pt → Array Value → Option Value → Pt → Prop), BackS l R p e below s args z len Wd Pre Po → (∀ vm₁, s.WarmedH vm₁ → Pre ⟨T.setVm vm₁, locs, ce, sl⟩ as') →
      ∃ (v : Option Value) (vm₁ : Vm) (A : Pt), s.WarmedH vm₁ ∧ Stand p l e R (s.setVm A.U.vm) m args below meth c A.U A.locs A.cells A.slots ∧ s.Since A.U.vm A.U.heap.size ∧ T.heap.size ≤ A.U.heap.size ∧ Po ⟨T.setVm vm₁, locs, ce, sl⟩ as' v A ∧ ∀ u, Steps p.tables e below (A.U.setTop (mkF m (pc + len) L (v.toList ++ S'))) u → Steps p.tables e below (T.setTop (mkF m pc L S)) u)
theorem kStatic {i i2 i3 i4 ix mlz Wd : Nat} {z : MethodName} {Bz : ByteArray} {retz : Option FieldType} {argsL S' : List Value} {ps : List FieldType} {rz : Option FieldType} (hd : decode B pc = .ok (.invokestatic ix, 3)) (w : tables_1[i]? = some (.methodLink y.cls ix z)) (w2 : tables_1[i2]? = some (.static z)) (w3 : tables_1[i3]? = some (.initialized z.cls)) (w4 : tables_1[i4]? = some (.code z Bz mlz retz))
    (hy : z.cls ≠ "java/lang/invoke/MethodHandle" ∧ z.cls ≠ "java/lang/invoke/VarHandle") (hsz : L.size = ml) (hpd : parseMethodDescriptor z.desc = some ⟨ps, rz⟩) (hlen : argsL.length = ps.length) (hst : S = argsL.reverse ++ S') (hW : (S'.map fun v => v.category).sum ≤ Wd) : Kd l Z a0 y B ml R h ce sl pc L S z 3 Wd argsL.toArray S' :=
  fun p e s m args below meth c T locs hx hby hown hZ hw hT hml X =>
  ⟨fun Pre Po hK hpre => by
    obtain ⟨v, vm₁, A, a1, a2, a3, a4⟩ := Jvm.LawKit.callS X hx hown (mvT hZ (wat hw w)) (mvT hZ (wat hw w2)) (mvT hZ (wat hw w3)) (mvT hZ (wat hw w4)) hy hK (g := mkF m pc L S) rfl (hsz.trans hml.symm) (argsL := argsL) (rest := S') (lenOf hpd hlen) hst (by show 2 * 0 + _ ≤ _; omega) (Jvm.hb hby hd) hpre
    exact ⟨v, vm₁, A, a1, a2, a3, a4⟩,
   fun Pre Po hK hpre => by
    obtain ⟨v, vm₁, A, a1, a2, a3, a4, a5, a6⟩ := callSS X hx hown (mvT hZ (wat hw w)) (mvT hZ (wat hw w2)) (mvT hZ (wat hw w3)) (mvT hZ (wat hw w4)) hy hK (g := mkF m pc L S) rfl (hsz.trans hml.symm) (argsL := argsL) (rest := S') (lenOf hpd hlen) hst (by show 2 * 0 + _ ≤ _; omega) (Jvm.hb hby hd) hpre
    exact ⟨v, vm₁, A, a1, a2, a3, a4, a5, fun u q => a6.trans q⟩⟩
theorem kInit {i i2 i4 ix mlz Wd : Nat} {z : MethodName} {Bz : ByteArray} {argsL S' : List Value} {a : Addr} {ps : List FieldType} {rz : Option FieldType} (hd : decode B pc = .ok (.invokespecial ix, 3)) (hz : z.name = "<init>") (w : tables_1[i]? = some (.methodLink y.cls ix z)) (w2 : tables_1[i2]? = some (.instanceMethod z)) (w4 : tables_1[i4]? = some (.code z Bz mlz none))
    (hy : z.cls ≠ "java/lang/invoke/MethodHandle" ∧ z.cls ≠ "java/lang/invoke/VarHandle") (hsz : L.size = ml) (hpd : parseMethodDescriptor z.desc = some ⟨ps, rz⟩) (hlen : argsL.length = ps.length) (hst : S = argsL.reverse ++ .ref a :: S') (hW : (S'.map fun v => v.category).sum ≤ Wd) : Kd l Z a0 y B ml R h ce sl pc L S z 3 Wd (.ref a :: argsL).toArray S' :=
  fun p e s m args below meth c T locs hx hby hown hZ hw hT hml X =>
  ⟨fun Pre Po hK hpre => by
    obtain ⟨v, vm₁, A, a1, a2, a3, a4⟩ := X.specialBack hx hz hown (mvT hZ (wat hw w)) (mvT hZ (wat hw w2)) (mvT hZ (wat hw w4)) hy hK (g := mkF m pc L S) rfl (hsz.trans hml.symm) (Steps.refl _) (a := a) (argsL := argsL) (rest := S') (lenOf hpd hlen) hst (by show 2 * 0 + _ ≤ _; omega) (Jvm.hb hby hd) hpre
    exact ⟨v, vm₁, A, a1, a2, a3, fun u q => a4.trans q⟩,
   fun Pre Po hK hpre => by
    obtain ⟨v, vm₁, A, a1, a2, a3, a4, a5, a6⟩ := X.specialBackS hx hz hown (mvT hZ (wat hw w)) (mvT hZ (wat hw w2)) (mvT hZ (wat hw w4)) hy hK (g := mkF m pc L S) rfl (hsz.trans hml.symm) (Steps.refl _) (a := a) (argsL := argsL) (rest := S') (lenOf hpd hlen) hst (by show 2 * 0 + _ ≤ _; omega) (Jvm.hb hby hd) hpre
    exact ⟨v, vm₁, A, a1, a2, a3, a4, a5, fun u q => a6.trans q⟩⟩
theorem kVirt {i i2 i3 i4 ix Wd : Nat} {z : MethodName} {C : String} {argsL S' : List Value} {a : Addr} {ps : List FieldType} {rz : Option FieldType} (hd : decode B pc = .ok (.invokevirtual ix, 3)) (w : tables_1[i]? = some (.methodLink y.cls ix z)) (w2 : tables_1[i2]? = some (.declares z)) (w3 : tables_1[i3]? = some (.selects C z z)) (w4 : tables_1[i4]? = some (.instanceMethod z)) (E : Exa Z h a C)
    (hy : z.cls ≠ "java/lang/invoke/MethodHandle" ∧ z.cls ≠ "java/lang/invoke/VarHandle") (hsz : L.size = ml) (hpd : parseMethodDescriptor z.desc = some ⟨ps, rz⟩) (hlen : argsL.length = ps.length) (hst : S = argsL.reverse ++ .ref a :: S') (hW : (S'.map fun v => v.category).sum ≤ Wd) : Kd l Z a0 y B ml R h ce sl pc L S z 3 Wd (.ref a :: argsL).toArray S' :=
  fun p e s m args below meth c T locs hx hby hown hZ hw hT hml X => by
  obtain ⟨cB, kB, q1, q2, q3⟩ := isOf (s := s) (T := T) hZ hT E
  refine ⟨fun Pre Po hK hpre => ?_, fun Pre Po hK hpre => ?_⟩
  · obtain ⟨v, vm₁, A, a1, a2, a3, a4⟩ := X.virtualBack hx hown (mvT hZ (wat hw w)) (mvT hZ (wat hw w2)) (notFace_of_selects (args := #[]) (mvT hZ (wat hw w3))) (mvT hZ (wat hw w3)) (mvT hZ (wat hw w4)) hy hK q1 q3 (g := mkF m pc L S) rfl (hsz.trans hml.symm) (Steps.refl _) (argsL := argsL) (rest := S') (lenOf hpd hlen) hst (by show 2 * 0 + _ ≤ _; omega) (Jvm.hb hby hd) hpre
    exact ⟨v, vm₁, A, a1, a2, a3, fun u q => a4.trans q⟩
  · obtain ⟨v, vm₁, A, a1, a2, a3, a4, a5, a6⟩ := X.virtualBackS hx hown (mvT hZ (wat hw w)) (mvT hZ (wat hw w2)) (notFace_of_selects (args := #[]) (mvT hZ (wat hw w3))) (mvT hZ (wat hw w3)) (mvT hZ (wat hw w4)) hy hK q1 q3 (g := mkF m pc L S) rfl (hsz.trans hml.symm) (Steps.refl _) (argsL := argsL) (rest := S') (lenOf hpd hlen) hst (by show 2 * 0 + _ ≤ _; omega) (Jvm.hb hby hd) hpre
    exact ⟨v, vm₁, A, a1, a2, a3, a4, a5, fun u q => a6.trans q⟩
theorem nilBk {vm : Vm} {x : Addr} : Safe Z [] vm h x := fun ⟨_, q, _⟩ => nomatch q
theorem nilCHv {vm : Vm} : CHv Z [] vm h := fun _ q => nomatch q
theorem nilCHr {vm vm1 : Vm} {h' : Heap} (q : h.size ≤ h'.size) : CHr Z [] vm h vm1 h' := ⟨nilCHv, q, fun _ ⟨_, r, _⟩ => nomatch r⟩
/-- a callee by its contract, as the library's calls take it -/
theorem Met.backS {p : Program} {e : Env} {below : List Frame} {s : State} {args : Array Value} {vm : Vm} {z : MethodName} {Bz : ByteArray} {mlz len Wd : Nat} {retz : Option FieldType} {Rz : Room} {as' : Array Value} {fs' : List Addr} {Pz : Option Value → Heap → Prop}
    (M : Met l nw Z EL n0 z Bz mlz retz Rz [] as' fs' h Pz) (hZ : Z.Warmed39 vm) (wc : (Jvm.Cond.code z Bz mlz retz).before a0 Z = true) (wz : (Jvm.Cond.initialized z.cls).before a0 Z = true) (hf : Rz.frames + 1 ≤ R.frames) (hl : Wd + (mlz + 11) + Rz.locals ≤ R.locals) (hEL : EW Z a0 EL) (H : CHv Z EL vm h) (hO : Old Z n0 h) (hF : ∀ x ∈ fs', n0 ≤ x ∧ x < h.size ∧ Safe Z EL vm h x) :
    BackS l R p e below (s.setVm vm) args z len Wd (fun A a => a = as' ∧ A.U.heap = h ∧ A.cells + Rz.cells ≤ R.cells ∧ A.slots + Rz.slots ≤ R.slots)
      (fun A _ v A' => ∃ Lo, (Pz v A'.U.heap ∧ Fr n0 Lo ∧ Old Z n0 A'.U.heap) ∧ A'.locs = A.locs ++ Lo ∧ A'.cells = A.cells + Rz.cells ∧ A'.slots = A.slots + Rz.slots ∧ CHr Z EL vm h A'.U.vm A'.U.heap) :=
  BackS.of_freeW (bytes := Bz) (maxL := mlz) (ret := retz) (E := fun _ first o t Lo k n => k = Rz.cells ∧ n = Rz.slots ∧ (∃ v, o = .returned v ∧ Pz v t.heap ∧ Fr n0 Lo ∧ Old Z n0 t.heap) ∧ CHr Z EL first.vm first.heap t.vm t.heap) M hf hl
    (fun m meth c A a Y hp => have hU : Z.Warmed39 A.U.vm := wtrans (s := s.setVm vm) hZ Y.warmed
      ⟨by show (Cond.and _ .tt).before a A.U = true; rw [Cond.before_and, mv hU wc]; rfl, mv hU wc, mv hU wz, hp.2.2.1, hp.2.2.2⟩)
    (fun m meth c A a g mk Y hp => ⟨hp.1, wtrans (s := s.setVm vm) hZ Y.warmed, hp.2.1, (CHv.at Y hZ hEL H).1, hO, fun x q => ⟨(hF x q).1, (hF x q).2.1, (CHv.at Y hZ hEL H).safe (hF x q).2.1 (hF x q).2.2⟩⟩) (fun _ _ _ _ _ _ _ _ _ => trivial)
    (fun _ _ _ _ ⟨v, Lo, h1, h2, h3, h4, _⟩ => ⟨Lo, _, _, h4, rfl, rfl, ⟨v, h1, h2⟩, h3⟩)
    (fun m meth c A a g mk v t Lo k n Y hp _ _ ⟨e1, e2, ⟨v', e3, e4⟩, e5⟩ => by
      cases e3; subst e1 e2
      refine ⟨Lo, e4, rfl, rfl, rfl, (CHv.at Y hZ hEL H).trans ?_⟩
      rw [← hp.2.1]; exact e5)
theorem call {i i2 : Nat} {z : MethodName} {Bz : ByteArray} {mlz len Wd : Nat} {retz : Option FieldType} {Rz : Room} {as' : Array Value} {fs' : List Addr} {Pz : Option Value → Heap → Prop} {S' : List Value} (kd : Kd l Z a0 y B ml R h ce sl pc L S z len Wd as' S') (M : Met l nw Z EL n0 z Bz mlz retz Rz [] as' fs' h Pz) (wc : tables_1[i]? = some (.code z Bz mlz retz)) (wz : tables_1[i2]? = some (.initialized z.cls))
    (hfs : ∀ x ∈ fs', x ∈ fs) (hf : Rz.frames + 1 ≤ R.frames) (hl : Wd + (mlz + 11) + Rz.locals ≤ R.locals) (hc : ce + Rz.cells ≤ R.cells) (hs : sl + Rz.slots ≤ R.slots) (hp : pc + len = pc')
    (K : ∀ v h', Pz v h' → h.size ≤ h'.size → Wq l nw Z EL a0 n0 y B ml ret R h0 Post fs h' (ce + Rz.cells) (sl + Rz.slots) pc' L (v.toList ++ S')) : Wq l nw Z EL a0 n0 y B ml ret R h0 Post fs h ce sl pc L S := fun p e s m args below meth c T locs vm k C => by
  obtain ⟨⟨hx, hby, hml, hret, hlk, hnm, hown, hh0⟩, ⟨hZ, hw, hEL, hnw⟩, X, hT, ⟨hN, hO⟩, ⟨hS, hk⟩, hC, hF⟩ := C
  subst hp
  cases hq : nw with
  | true =>
    obtain ⟨q1, rfl⟩ := hnw hq
    have M' : MetFree l z (head1 [Jvm.Cond.code z Bz mlz retz] Rz) (fun a U => a = as' ∧ Z.Warmed39 U.vm ∧ U.heap = h) (fun _ _ _ _ _ => True) (fun _ U o U' => ∃ v Lo, o = .returned v ∧ (Pz v U'.heap ∧ Fr n0 Lo ∧ Old Z n0 U'.heap ∧ h.size ≤ U'.heap.size) ∧ FrameEnd U o U' Lo Rz.cells Rz.slots) :=
      MetFree.mono M (fun a U q => ⟨q.1, q.2.1, q.2.2, nilCHv, hO, fun x r => ⟨(hF x (hfs x r)).1, (hF x (hfs x r)).2.1, nilBk⟩⟩) (fun _ _ _ _ _ q => q) (fun a U o U' hP ⟨v, Lo, h1, h2, h3, h4, h5⟩ => ⟨v, Lo, h1, ⟨h2.1, h2.2.1, h2.2.2, by have := h3.2.1; rw [hP.2.2] at this; exact this⟩, ⟨v, h1⟩, h5 hq, h4.2.2.2⟩)
    obtain ⟨v, vm₁, ⟨T', L', c', n'⟩, -, X', ⟨Lo, ⟨hP, hN', hO', hsz⟩, l1, l2, l3⟩, st⟩ := (kd p e (s.setVm vm) m args below meth c T locs hx hby hown hZ hw hT hml X).1 _ _ (backOf (W := Wd) (s := s.setVm vm) (Q := fun v h' Lo => Pz v h' ∧ Fr n0 Lo ∧ Old Z n0 h' ∧ h.size ≤ h'.size) M' hZ (wat hw wc) (wat hw wz) hf hl) (fun vm₁ _ => ⟨rfl, hT, hc, hs⟩)
    dsimp only [Pt.U, Pt.locs, Pt.cells, Pt.slots] at X' hP hO' hsz l1 l2 l3 st
    subst l1 l2 l3
    have := K v T'.heap hP hsz p e s m args below meth c T' _ vm k ⟨⟨hx, hby, hml, hret, hlk, hnm, hown, hh0⟩, ⟨hZ, hw, hEL, hnw⟩, X', rfl, ⟨hN.app hN', hO'⟩, ⟨hS, Nat.le_trans hk hsz⟩, nilCHr (Nat.le_trans hC.2.1 hsz), fun x r => ⟨(hF x r).1, Nat.lt_of_lt_of_le (hF x r).2.1 hsz, nilBk⟩⟩
    rw [hq] at this
    exact this.st st
  | false =>
    obtain ⟨v, vm₁, ⟨T', L', c', n'⟩, -, X', hS', hsz, ⟨Lo, ⟨hP, hN', hO'⟩, l1, l2, l3, hC'⟩, st⟩ := (kd p e (s.setVm vm) m args below meth c T locs hx hby hown hZ hw hT hml X).2 _ _ (Met.backS (R := R) (Wd := Wd) (a0 := a0) M hZ (wat hw wc) (wat hw wz) hf hl hEL hC.1 hO (fun x r => hF x (hfs x r))) (fun vm₁ _ => ⟨rfl, hT, hc, hs⟩)
    dsimp only [Pt.U, Pt.locs, Pt.cells, Pt.slots] at X' hP hO' hS' hsz l1 l2 l3 hC' st
    subst l1 l2 l3
    have hsz' : h.size ≤ T'.heap.size := by rw [← hT]; exact hsz
    have hW2 : (s.setVm vm).Warmed39 T'.vm := hS'.1
    have hZ' : Z.Warmed39 T'.vm := State.Warmed39.trans (t := s.setVm vm) hZ hW2
    have := K v T'.heap hP hsz' p e s m args below meth c T' _ T'.vm T'.heap.size ⟨⟨hx, hby, hml, hret, hlk, hnm, by rw [hW2.alike.findClass]; exact hown, hh0⟩, ⟨hZ', hw, hEL, fun q => by rw [hq] at q; cases q⟩, X', rfl, ⟨hN.app hN', hO'⟩, ⟨hS.trans hS' (Nat.le_trans hk hsz'), Nat.le_refl _⟩, hC.trans hC', fun x r => ⟨(hF x r).1, Nat.lt_of_lt_of_le (hF x r).2.1 hsz', hC'.safe (hF x r).2.1 (hF x r).2.2⟩⟩
    rw [hq] at this
    exact this.st st
/-- a callee by a law of the library's (or pasted) shape -/
theorem callB {z : MethodName} {len Wd kc ks : Nat} {as' : Array Value} {Qb : Option Value → Heap → List Loc → Prop} {S' : List Value} {ws : List Addr} (kd : Kd l Z a0 y B ml R h ce sl pc L S z len Wd as' S')
    (hK : ∀ {p : Program} {e : Env} {below : List Frame} {s : State} {args : Array Value}, Z.Warmed39 s.vm → (∀ d ∈ tables_1, d.before a0 Z = true) → Back l R p e below s args z len Wd (fun A a => a = as' ∧ A.U.heap = h ∧ A.cells + kc ≤ R.cells ∧ A.slots + ks ≤ R.slots) (fun A _ v A' => ∃ Lo, Qb v A'.U.heap Lo ∧ A'.locs = A.locs ++ Lo ∧ A'.cells = A.cells + kc ∧ A'.slots = A.slots + ks))
    (hws : ∀ x ∈ ws, x ∈ fs) (hQ : ∀ v h' Lo, Qb v h' Lo → Fr n0 Lo ∧ Keep h h' ws) (hc : ce + kc ≤ R.cells) (hs : sl + ks ≤ R.slots) (hp : pc + len = pc')
    (K : ∀ v h' Lo, Qb v h' Lo → Wq l nw Z EL a0 n0 y B ml ret R h0 Post fs h' (ce + kc) (sl + ks) pc' L (v.toList ++ S')) : Wq l nw Z EL a0 n0 y B ml ret R h0 Post fs h ce sl pc L S := fun p e s m args below meth c T locs vm k C => by
  obtain ⟨⟨hx, hby, hml, hret, hlk, hnm, hown, hh0⟩, ⟨hZ, hw, hEL, hnw⟩, X, hT, ⟨hN, hO⟩, ⟨hS, hk⟩, hC, hF⟩ := C
  subst hp
  obtain ⟨v, vm₁, ⟨T', L', c', n'⟩, -, X', ⟨Lo, hP, l1, l2, l3⟩, st⟩ := (kd p e (s.setVm vm) m args below meth c T locs hx hby hown hZ hw hT hml X).1 _ _ (hK (s := s.setVm vm) hZ hw) (fun vm₁ _ => ⟨rfl, hT, hc, hs⟩)
  dsimp only [Pt.U, Pt.locs, Pt.cells, Pt.slots] at X' hP l1 l2 l3 st
  subst l1 l2 l3
  obtain ⟨hN', hKp⟩ := hQ v _ Lo hP
  have hsf : ∀ x ∈ ws, Safe Z EL vm h x := fun x r => (hF x (hws x r)).2.2
  exact (K v T'.heap Lo hP p e s m args below meth c T' _ vm k ⟨⟨hx, hby, hml, hret, hlk, hnm, hown, hh0⟩, ⟨hZ, hw, hEL, hnw⟩, X', rfl, ⟨hN.app hN', hO.keep hKp (fun x r => (hF x (hws x r)).1)⟩, ⟨hS, Nat.le_trans hk hKp.1⟩, hC.trans (CHr.keep hKp hsf hC.1), fun x r => ⟨(hF x r).1, Nat.lt_of_lt_of_le (hF x r).2.1 hKp.1, Safe.keep hKp hsf hC.1 (hF x r).2.2⟩⟩).st st
end Calls
end Ow
end Jvm.Pilot.@@N@@
namespace Jvm.Pilot.@@N@@
open Jvm Jvm.ClassFile Sem Op Lib Jvm.Free Jvm.Stand Jvm.LawKit Jvm.RoadKit Bundle Jvm.Pilot.@@N@@.Jvm.D
namespace Ow
section More
variable {l : Launch} {nw : Bool} {Z : State} {EL : List (String × Nat)} {a0 : Array Value} {n0 : Nat} {y : MethodName} {B : ByteArray} {ml : Nat} {ret : Option FieldType} {R : Room} {h0 : Heap} {Post : Option Value → Heap → Prop} {fs : List Addr} {h : Heap} {ce sl pc pc' : Nat} {L : Array Slot} {S : List Value}
/-- System.arraycopy between two arrays of one primitive type -/
theorem copyArr {i1 i2 i3 i4 ix Wd : Nat} {a b : Addr} {kc k' : ClassId} {ty : FieldType} {z z' sp dp nn : Int32} {vs vd : List Value} {dv dd : Value} (hd : decode B pc = .ok (.invokestatic ix, 3)) (w1 : tables_1[i1]? = some (.methodLink y.cls ix Jvm.Stand.acN)) (w2 : tables_1[i2]? = some (.native Jvm.Stand.acN)) (w3 : tables_1[i3]? = some (.static Jvm.Stand.acN)) (w4 : tables_1[i4]? = some (.initialized "java/lang/System"))
    (A : Arv Z h a kc ty z vs dv) (A' : Arv Z h b k' ty z' vd dd) (hty : refKind ty = false) (h1 : ¬ sp < 0) (h2 : ¬ dp < 0) (h3 : ¬ nn < 0) (h4 : sp.toNatClampNeg + nn.toNatClampNeg ≤ z.toNatClampNeg) (h5 : dp.toNatClampNeg + nn.toNatClampNeg ≤ z'.toNatClampNeg) (hl : dp.toNatClampNeg + nn.toNatClampNeg ≤ vd.length) (hb : b ∈ fs)
    (hsz : L.size = ml) (hfr : 1 ≤ R.frames) (hW : (S.map fun v => v.category).sum ≤ Wd) (hlo : Wd + (nativeFrameWords "java/lang/System" "arraycopy" 5 + 11) ≤ R.locals) (hp : pc + 3 = pc')
    (K : ∀ h', Keep h h' [b] → Arv Z h' b k' ty z' (vd.take dp.toNatClampNeg ++ (List.range nn.toNatClampNeg).map (fun i => vs.getD (sp.toNatClampNeg + i) dv) ++ vd.drop (dp.toNatClampNeg + nn.toNatClampNeg)) dd → Wq l nw Z EL a0 n0 y B ml ret R h0 Post fs h' ce sl pc' L S) :
    Wq l nw Z EL a0 n0 y B ml ret R h0 Post fs h ce sl pc L (.int nn :: .int dp :: .ref b :: .int sp :: .ref a :: S) := fun p e s m args below meth c T locs vm k C => by
  obtain ⟨⟨hx, hby, hml, hret, hlk, hnm, hown, hh0⟩, ⟨hZ, hw, hEL, hnw⟩, X, hT, ⟨hN, hO⟩, ⟨hS, hk⟩, hC, hF⟩ := C
  subst hp
  obtain ⟨T', h', Lo, X', e', N', hKp, AA, st⟩ := cpA X hx hZ hown (wat hw w1) (wat hw w2) (wat hw w3) (wat hw w4) hT A A' (Or.inl ⟨rfl, hty⟩) h1 h2 h3 h4 h5 rfl hl hN (hF b hb).1 (g := mkF m pc L (.int nn :: .int dp :: .ref b :: .int sp :: .ref a :: S)) rfl (hsz.trans hml.symm) rfl (Jvm.hb hby hd) hfr (W := Wd) (by show 2 * 0 + _ ≤ _; omega) hlo
  have hsf : ∀ x ∈ [b], Safe Z EL vm h x := fun x r => by cases List.mem_singleton.mp r; exact (hF b hb).2.2
  have hge : ∀ x ∈ [b], n0 ≤ x := fun x r => by cases List.mem_singleton.mp r; exact (hF b hb).1
  exact (K h' hKp AA p e s m args below meth c T' _ vm k ⟨⟨hx, hby, hml, hret, hlk, hnm, hown, hh0⟩, ⟨hZ, hw, hEL, hnw⟩, X', e', ⟨N', hO.keep hKp hge⟩, ⟨hS, Nat.le_trans hk hKp.1⟩, hC.trans (CHr.keep hKp hsf hC.1), fun x r => ⟨(hF x r).1, Nat.lt_of_lt_of_le (hF x r).2.1 hKp.1, Safe.keep hKp hsf hC.1 (hF x r).2.2⟩⟩).st st
/-- invokevirtual of a private method; z2: another method of the class, whose 'selects' word says that the class is no interface -/
theorem kPriv {i i2 i3 i4 i5 ix mlz Wd : Nat} {z z2 : MethodName} {Bz : ByteArray} {retz : Option FieldType} {C D : String} {argsL S' : List Value} {a : Addr} {ps : List FieldType} {rz : Option FieldType} (hd : decode B pc = .ok (.invokevirtual ix, 3)) (w : tables_1[i]? = some (.methodLink y.cls ix z)) (w2 : tables_1[i2]? = some (.instanceMethod z)) (w3 : tables_1[i3]? = some (.selects C z2 z2)) (w4 : tables_1[i4]? = some (.code z Bz mlz retz)) (w5 : tables_1[i5]? = some (.privateMethod z)) (hcl : z2.cls = z.cls) (E : Exa Z h a D)
    (hy : z.cls ≠ "java/lang/invoke/MethodHandle" ∧ z.cls ≠ "java/lang/invoke/VarHandle") (hsz : L.size = ml) (hpd : parseMethodDescriptor z.desc = some ⟨ps, rz⟩) (hlen : argsL.length = ps.length) (hst : S = argsL.reverse ++ .ref a :: S') (hW : (S'.map fun v => v.category).sum ≤ Wd) : Kd l Z a0 y B ml R h ce sl pc L S z 3 Wd (.ref a :: argsL).toArray S' :=
  fun p e s m args below meth c T locs hx hby hown hZ hw hT hml X => by
  obtain ⟨cB, kB, q1, q2, cell, q3, -, q4⟩ := isOf (s := s) (T := T) hZ hT E
  have hobj : ∀ q, cell.vm ≠ .statics q := fun q r => by rw [r] at q4; cases q4
  have hpr := Cond.privateMethod_at (mvT (args := args) hZ (wat hw w5))
  have hin := mvT (args := args) hZ (wat hw w2)
  obtain ⟨c2, r2, m2, -, -, p3, -, kP, hkP, hkPi⟩ := Cond.selects_spec (mvT (args := args) hZ (wat hw w3))
  have hsel := Jvm.Stand.selects_self_of_private (args := args) (by rw [← hcl]; exact findClass_of_methodNamed p3) hkP hkPi hpr hin hy
  refine ⟨fun Pre Po hK hpre => ?_, fun Pre Po hK hpre => ?_⟩
  · obtain ⟨v, vm₁, A, a1, a2, a3, a4⟩ := X.privateBack hx hown (mvT hZ (wat hw w)) hin hsel hpr (mvT hZ (wat hw w4)) hy hK (g := mkF m pc L S) rfl (hsz.trans hml.symm) (Steps.refl _) q3 hobj (argsL := argsL) (rest := S') (lenOf hpd hlen) hst (by show 2 * 0 + _ ≤ _; omega) (Jvm.hb hby hd) hpre
    exact ⟨v, vm₁, A, a1, a2, a3, fun u q => a4.trans q⟩
  · obtain ⟨v, vm₁, A, a1, a2, a3, a4, a5, a6⟩ := X.privateBackS hx hown (mvT hZ (wat hw w)) hin hsel hpr (mvT hZ (wat hw w4)) hy hK (g := mkF m pc L S) rfl (hsz.trans hml.symm) (Steps.refl _) q3 hobj (argsL := argsL) (rest := S') (lenOf hpd hlen) hst (by show 2 * 0 + _ ≤ _; omega) (Jvm.hb hby hd) hpre
    exact ⟨v, vm₁, A, a1, a2, a3, a4, a5, fun u q => a6.trans q⟩
/-- invokeinterface -/
theorem kIface {i i2 i3 i4 i5 i6 i7 i8 ix ct Wd : Nat} {xi z : MethodName} {C : String} {argsL S' : List Value} {a : Addr} {ps : List FieldType} {rz : Option FieldType} (hd : decode B pc = .ok (.invokeinterface ix ct, 5)) (w : tables_1[i]? = some (.methodLink y.cls ix xi)) (w2 : tables_1[i2]? = some (.declares xi)) (w3 : tables_1[i3]? = some (.interfaceMethod xi.cls xi.cls xi.name xi.desc)) (w4 : tables_1[i4]? = some (.selects C xi z)) (w5 : tables_1[i5]? = some (.instanceMethod z)) (w6 : tables_1[i6]? = some (.publicMethod z)) (w7 : tables_1[i7]? = some (.unhidden C xi.name xi.desc)) (w8 : tables_1[i8]? = some (.castable C xi.cls)) (E : Exa Z h a C)
    (hy : xi.cls ≠ "java/lang/invoke/MethodHandle" ∧ xi.cls ≠ "java/lang/invoke/VarHandle") (hsz : L.size = ml) (hpd : parseMethodDescriptor xi.desc = some ⟨ps, rz⟩) (hlen : argsL.length = ps.length) (hst : S = argsL.reverse ++ .ref a :: S') (hW : (S'.map fun v => v.category).sum ≤ Wd) : Kd l Z a0 y B ml R h ce sl pc L S z 5 Wd (.ref a :: argsL).toArray S' :=
  fun p e s m args below meth c T locs hx hby hown hZ hw hT hml X => by
  obtain ⟨cB, kB, q1, q2, q3⟩ := isOf (s := s) (T := T) hZ hT E
  refine ⟨fun Pre Po hK hpre => ?_, fun Pre Po hK hpre => ?_⟩
  · obtain ⟨v, vm₁, A, a1, a2, a3, a4⟩ := X.interfaceBack hx hown (mvT hZ (wat hw w)) (mvT hZ (wat hw w2)) (mvT hZ (wat hw w3) (by simp [Cond.onTables, Cond.keepsFace, Cond.keeps, Cond.steady, Cond.faceAtom, hy.1, hy.2])) (mvT hZ (wat hw w4)) (mvT hZ (wat hw w5)) (mvT hZ (wat hw w6)) (mvT hZ (wat hw w7)) (mvT hZ (wat hw w8)) hy hK q1 q2 q3 (g := mkF m pc L S) rfl (hsz.trans hml.symm) (Steps.refl _) (argsL := argsL) (rest := S') (lenOf hpd hlen) hst (by show 2 * 0 + _ ≤ _; omega) (Jvm.hb hby hd) hpre
    exact ⟨v, vm₁, A, a1, a2, a3, fun u q => a4.trans q⟩
  · obtain ⟨v, vm₁, A, a1, a2, a3, a4, a5, a6⟩ := X.interfaceBackS hx hown (mvT hZ (wat hw w)) (mvT hZ (wat hw w2)) (mvT hZ (wat hw w3) (by simp [Cond.onTables, Cond.keepsFace, Cond.keeps, Cond.steady, Cond.faceAtom, hy.1, hy.2])) (mvT hZ (wat hw w4)) (mvT hZ (wat hw w5)) (mvT hZ (wat hw w6)) (mvT hZ (wat hw w7)) (mvT hZ (wat hw w8)) hy hK q1 q2 q3 (g := mkF m pc L S) rfl (hsz.trans hml.symm) (Steps.refl _) (argsL := argsL) (rest := S') (lenOf hpd hlen) hst (by show 2 * 0 + _ ≤ _; omega) (Jvm.hb hby hd) hpre
    exact ⟨v, vm₁, A, a1, a2, a3, a4, a5, fun u q => a6.trans q⟩
/-- an object that a callee made is one of ours (no literals about) -/
theorem adopt {b : Addr} (hE : EL = []) (hb : n0 ≤ b) (hl : b < h.size) (K : Wq l nw Z EL a0 n0 y B ml ret R h0 Post (b :: fs) h ce sl pc L S) : Wq l nw Z EL a0 n0 y B ml ret R h0 Post fs h ce sl pc L S := fun p e s m args below meth c T locs vm k C => by
  subst hE
  obtain ⟨c1, c2, c3, c4, c5, c6, c7, hF⟩ := C
  exact K p e s m args below meth c T locs vm k ⟨c1, c2, c3, c4, c5, c6, c7, fun x q => (List.mem_cons.mp q).elim (fun r => r ▸ ⟨hb, hl, nilBk⟩) (hF x)⟩
end More
end Ow
end Jvm.Pilot.@@N@@
namespace Jvm.Pilot.@@N@@
open Jvm Jvm.ClassFile Sem Op Lib Jvm.Free Jvm.Stand Jvm.LawKit Jvm.RoadKit Bundle Jvm.Pilot.@@N@@.Jvm.D
namespace Ow
section Super
variable {l : Launch} {nw : Bool} {Z : State} {EL : List (String × Nat)} {a0 : Array Value} {n0 : Nat} {y : MethodName} {B : ByteArray} {ml : Nat} {ret : Option FieldType} {R : Room} {h0 : Heap} {Post : Option Value → Heap → Prop} {fs : List Addr} {h : Heap} {ce sl pc pc' : Nat} {L : Array Slot} {S : List Value}
theorem same_of {z z2 : MethodName} {C : String} (w1 : (Cond.instanceMethod z).before a0 Z = true) (w2 : (Cond.selects C z2 z2).before a0 Z = true) (hcl : z2.cls = z.cls) (hy : z.cls ≠ "java/lang/invoke/MethodHandle" ∧ z.cls ≠ "java/lang/invoke/VarHandle") : (Cond.sameMethod z.cls z.cls z.name z.desc).before a0 Z = true := by
  obtain ⟨mk, methM, hnamed, hmethM, -, -⟩ := Cond.instanceMethod_spec w1
  have hf := State.methodFound?_of_named hnamed hy
  have hc := findClass_of_methodNamed hnamed
  obtain ⟨c2, r2, m2, -, -, p3, -, kP, hkP, hkPi⟩ := Cond.selects_spec w2
  have hc2 := findClass_of_methodNamed p3
  rw [hcl, hc] at hc2
  have hn' : Z.methodNamed? ⟨z.cls, z.name, z.desc⟩ = some mk := hnamed
  rw [← Option.some.inj hc2] at hkP
  simp [Cond.before, Cond.holds, Cond.value, hc, hf, hn', hkP, hkPi]
/-- invokespecial of a superclass's method -/
theorem kSuper {i i2 i3 i4 i5 ix mlz Wd : Nat} {z z2 : MethodName} {Bz : ByteArray} {retz : Option FieldType} {C D : String} {argsL S' : List Value} {a : Addr} {ps : List FieldType} {rz : Option FieldType} (hd : decode B pc = .ok (.invokespecial ix, 3)) (w : tables_1[i]? = some (.methodLink y.cls ix z)) (w2 : tables_1[i2]? = some (.instanceMethod z)) (w3 : tables_1[i3]? = some (.selects C z2 z2)) (w4 : tables_1[i4]? = some (.code z Bz mlz retz)) (w5 : tables_1[i5]? = some (.superclass y.cls z.cls)) (hcl : z2.cls = z.cls) (hn : z.name ≠ "<init>") (E : Ins Z h a D true)
    (hy : z.cls ≠ "java/lang/invoke/MethodHandle" ∧ z.cls ≠ "java/lang/invoke/VarHandle") (hsz : L.size = ml) (hpd : parseMethodDescriptor z.desc = some ⟨ps, rz⟩) (hlen : argsL.length = ps.length) (hst : S = argsL.reverse ++ .ref a :: S') (hW : (S'.map fun v => v.category).sum ≤ Wd) : Kd l Z a0 y B ml R h ce sl pc L S z 3 Wd (.ref a :: argsL).toArray S' :=
  fun p e s m args below meth c T locs hx hby hown hZ hw hT hml X => by
  have hs := same_of (wat hw w2) (wat hw w3) hcl hy
  refine ⟨fun Pre Po hK hpre => ?_, fun Pre Po hK hpre => ?_⟩
  · obtain ⟨v, vm₁, A, a1, a2, a3, a4⟩ := superBack X hx hZ hown (wat hw w) hs (wat hw w2) (wat hw w5) hn hK hT E (g := mkF m pc L S) rfl (hsz.trans hml.symm) (wat hw w4) (argsL := argsL) (rest := S') (lenOf hpd hlen) hst (by show 2 * 0 + _ ≤ _; omega) (Jvm.hb hby hd) hpre
    exact ⟨v, vm₁, A, a1, a2, a3, fun u q => a4.trans q⟩
  · obtain ⟨v, vm₁, A, a1, a2, a3, a4, a5, a6⟩ := superBackS X hx hZ hown (wat hw w) hs (wat hw w2) (wat hw w5) hn hK hT E (g := mkF m pc L S) rfl (hsz.trans hml.symm) (wat hw w4) (argsL := argsL) (rest := S') (lenOf hpd hlen) hst (by show 2 * 0 + _ ≤ _; omega) (Jvm.hb hby hd) hpre
    exact ⟨v, vm₁, A, a1, a2, a3, a4, a5, fun u q => a6.trans q⟩
/-- invokevirtual, the selected method another than the one that is named -/
theorem kVirt2 {i i2 i3 i4 i5 ix Wd : Nat} {zx z z2 : MethodName} {C D : String} {argsL S' : List Value} {a : Addr} {ps : List FieldType} {rz : Option FieldType} (hd : decode B pc = .ok (.invokevirtual ix, 3)) (w : tables_1[i]? = some (.methodLink y.cls ix zx)) (w2 : tables_1[i2]? = some (.declares zx)) (w3 : tables_1[i3]? = some (.selects C zx z)) (w4 : tables_1[i4]? = some (.instanceMethod z)) (w5 : tables_1[i5]? = some (.selects D z2 z2)) (hcl : z2.cls = zx.cls) (E : Exa Z h a C)
    (hy : zx.cls ≠ "java/lang/invoke/MethodHandle" ∧ zx.cls ≠ "java/lang/invoke/VarHandle") (hsz : L.size = ml) (hpd : parseMethodDescriptor zx.desc = some ⟨ps, rz⟩) (hlen : argsL.length = ps.length) (hst : S = argsL.reverse ++ .ref a :: S') (hW : (S'.map fun v => v.category).sum ≤ Wd) : Kd l Z a0 y B ml R h ce sl pc L S z 3 Wd (.ref a :: argsL).toArray S' :=
  fun p e s m args below meth c T locs hx hby hown hZ hw hT hml X => by
  obtain ⟨cB, kB, q1, q2, q3⟩ := isOf (s := s) (T := T) hZ hT E
  have nf : NotFace s zx := fun r0 hr => by
    obtain ⟨c2, r2, m2, -, -, p3, -, kP, hkP, hkPi⟩ := Cond.selects_spec (mvT (args := args) hZ (wat hw w5))
    have e1 := findClass_of_methodNamed p3
    have e2 := findClass_of_methodNamed hr
    rw [hcl, e2] at e1
    rw [← Option.some.inj e1] at hkP
    exact ⟨kP, hkP, hkPi⟩
  refine ⟨fun Pre Po hK hpre => ?_, fun Pre Po hK hpre => ?_⟩
  · obtain ⟨v, vm₁, A, a1, a2, a3, a4⟩ := X.virtualBack hx hown (mvT hZ (wat hw w)) (mvT hZ (wat hw w2)) nf (mvT hZ (wat hw w3)) (mvT hZ (wat hw w4)) hy hK q1 q3 (g := mkF m pc L S) rfl (hsz.trans hml.symm) (Steps.refl _) (argsL := argsL) (rest := S') (lenOf hpd hlen) hst (by show 2 * 0 + _ ≤ _; omega) (Jvm.hb hby hd) hpre
    exact ⟨v, vm₁, A, a1, a2, a3, fun u q => a4.trans q⟩
  · obtain ⟨v, vm₁, A, a1, a2, a3, a4, a5, a6⟩ := X.virtualBackS hx hown (mvT hZ (wat hw w)) (mvT hZ (wat hw w2)) nf (mvT hZ (wat hw w3)) (mvT hZ (wat hw w4)) hy hK q1 q3 (g := mkF m pc L S) rfl (hsz.trans hml.symm) (Steps.refl _) (argsL := argsL) (rest := S') (lenOf hpd hlen) hst (by show 2 * 0 + _ ≤ _; omega) (Jvm.hb hby hd) hpre
    exact ⟨v, vm₁, A, a1, a2, a3, a4, a5, fun u q => a6.trans q⟩
/-- a byte[] of our own making that is not empty is no literal's, where each literal of EL is "" -/
theorem adoptB {b : Addr} {kc : ClassId} {z : Int32} {vs : List Value} {dv : Value} (A : Arv Z h b kc .byte z vs dv) (hz : z.toNatClampNeg ≠ 0) (hE : ∀ p ∈ EL, (Cond.stringLink p.1 p.2 "").before a0 Z = true) (hb : n0 ≤ b) (K : Wq l nw Z EL a0 n0 y B ml ret R h0 Post (b :: fs) h ce sl pc L S) : Wq l nw Z EL a0 n0 y B ml ret R h0 Post fs h ce sl pc L S := fun p e s m args below meth c T locs vm k C => by
  obtain ⟨c1, ⟨hZ, c2⟩, c3, c4, c5, c6, c7, hF⟩ := C
  have hs : Safe Z EL vm h b := fun Bk' => by
    obtain ⟨cell, ⟨A1, A2, -⟩, -, hsz, -, -, -⟩ := A
    obtain ⟨-, kA, hkA, compA, hkindA⟩ := A2
    obtain ⟨kA', hkA', ekA⟩ := hZ.alike.2.2 _ _ hkA
    obtain ⟨p', hp', u, a, hbk, q, -, F, rfl | rfl⟩ := Bk'
    · cases (show h[q.sa]? = some q.sC from F.ha).symm.trans A1
      obtain ⟨cS, ⟨-, -, e⟩, ⟨kS, g1, g2, -⟩, -⟩ := F
      subst e
      cases (show vm.classes[q.sC.cls]? = some kS from g1).symm.trans hkA'
      rw [ekA] at g2
      have := hkindA.symm.trans g2
      cases this
    · cases (show h[q.sd]? = some q.SA from F.hd).symm.trans A1
      obtain ⟨cS, -, -, -, hby⟩ := F
      obtain ⟨c', k', cf, i, hc, hk, hcf, hp1, hp2, -⟩ := hbk
      obtain ⟨k2, cf2, i2, u2, hk2, hcf2, hq1, hq2, -, htx, -⟩ := Cond.stringLink_spec (args := a0) (s := Wst Z vm h) (show (Wst Z vm h).vm.findClass p'.1 = some c' from hc) (mvS (s := { Z with heap := h }) hZ (hE p' hp'))
      cases hk.symm.trans hk2
      cases hcf.symm.trans hcf2
      cases hp1.symm.trans hq1
      cases hp2.symm.trans hq2
      have hu := Jvm.ClassFile.units_of_text htx (by simp)
      have hu0 : u = #[] := by
        apply Array.toList_inj.mp
        rw [hu]; rfl
      rw [hby, hu0] at hsz
      exact hz (by rw [← hsz]; simp [stringBytes])
  exact K p e s m args below meth c T locs vm k ⟨c1, ⟨hZ, c2⟩, c3, c4, c5, c6, c7, fun x q => (List.mem_cons.mp q).elim (fun r => r ▸ ⟨hb, A.lt, hs⟩) (hF x)⟩
/-- newarray, with the array's class by its name -/
theorem newarrayE {i cap : Nat} {aty : ArrayType} {ty : FieldType} {z : Int32} {ad : String} (hd : decode B pc = .ok (.newarray aty, 2)) (hty : newarray.typeOf aty = ty) (w : tables_1[i]? = some (.arrayClass ty)) (hz : ¬ z < 0) (hcap : z.toNatClampNeg ≤ cap) (hb8 : cap * 8 ≤ 536870912) (hc : ce + 1 ≤ R.cells) (hs : sl + cap ≤ R.slots) (hp : pc + 2 = pc') (had : "[" ++ ty.toString = ad)
    (K : ∀ h' a kc, a = h.size → Ext h h' → Arv Z h' a kc ty z [] (defaultValue ty) → Exa Z h' a ad → Wq l nw Z EL a0 n0 y B ml ret R h0 Post (a :: fs) h' (ce + 1) (sl + cap) pc' L (.ref a :: S)) : Wq l nw Z EL a0 n0 y B ml ret R h0 Post fs h ce sl pc L (.int z :: S) :=
  grow (P := fun h' => ∃ kc, Arv Z h' h.size kc ty z [] (defaultValue ty) ∧ Exa Z h' h.size ad) (fun hx hby hown hZ hw hT _ X => by
    subst hp hty
    obtain ⟨T', h', kc, X', e', E, A, Ea, st⟩ := newPE X hx hZ (wat hw w) hT (g := mkF _ pc L (.int z :: S)) rfl (Jvm.hb hby hd) rfl hz hcap hb8 hc hs had
    exact ⟨T', h', X', e', E, ⟨kc, Arv.new A hz, Ea⟩, st⟩) (fs' := h.size :: fs) (fun x q => (List.mem_cons.mp q).symm) (fun h' _ q => q.elim fun kc r => r.1.lt) (fun h' E q => q.elim fun kc r => K h' _ kc rfl E r.1 r.2)
/-- an array that a callee made, no byte[], is one of ours -/
theorem adoptA {b : Addr} {kc : ClassId} {ty : FieldType} {z : Int32} {vs : List Value} {dv : Value} (A : Arv Z h b kc ty z vs dv) (ht : ty ≠ .byte) (hb : n0 ≤ b) (K : Wq l nw Z EL a0 n0 y B ml ret R h0 Post (b :: fs) h ce sl pc L S) : Wq l nw Z EL a0 n0 y B ml ret R h0 Post fs h ce sl pc L S := fun p e s m args below meth c T locs vm k C => by
  obtain ⟨c1, ⟨hZ, c2⟩, c3, c4, c5, c6, c7, hF⟩ := C
  have hs : Safe Z EL vm h b := by
    obtain ⟨cell, Ar, -⟩ := A
    exact Safe.arr hZ.alike Ar ht
  exact K p e s m args below meth c T locs vm k ⟨c1, ⟨hZ, c2⟩, c3, c4, c5, c6, c7, fun x q => (List.mem_cons.mp q).elim (fun r => r ▸ ⟨hb, A.lt, hs⟩) (hF x)⟩
end Super
end Ow
end Jvm.Pilot.@@N@@
namespace Jvm.Pilot.@@N@@
open Jvm Jvm.ClassFile Sem Op Lib Jvm.Free Jvm.Stand Jvm.LawKit Jvm.RoadKit Bundle Jvm.Pilot.@@N@@.Jvm.D
namespace Ow
/-! From the words of a case (at the start s) to facts on the start's heap -/
section Words
variable {args : Array Value} {s : State} {t u : Term} {x : Addr} {z : Int32} {cl : Cell} {ty : FieldType}
theorem eqI (h : (Cond.eq t (.int z)).value args s none s [] = some true) : t.eval args s none [] s = some (.int z) := by
  cases ht : t.eval args s none [] s with
  | none => simp [Cond.value, ht] at h
  | some v => cases v <;> simp [Cond.value, Term.eval, ht] at h ⊢; exact h
theorem eqA (hu : u.eval args s none [] s = some (.ref x)) (h : (Cond.eq t u).value args s none s [] = some true) : t.eval args s none [] s = some (.ref x) := by
  cases ht : t.eval args s none [] s with
  | none => simp [Cond.value, ht] at h
  | some v => cases v <;> simp [Cond.value, hu, ht] at h ⊢; exact h
theorem lenI (ht : t.eval args s none [] s = some (.ref x)) (A : Arr s s.heap x cl ty) (h : (Cond.eq (.length t) (.int z)).value args s none s [] = some true) : cl.slots.size < 2 ^ 31 ∧ cl.slots.size.toInt32 = z := by
  have e := eqI h
  have q := A.fin (U := s) (Vm.Alike.refl _)
  simp only [Term.eval, ht, q, Option.bind_eq_bind, Option.bind_some] at e
  split at e
  · rename_i hlt
    exact ⟨hlt, by simpa using e⟩
  · cases e
theorem elemI {j : Int32} {v : Value} (ht : t.eval args s none [] s = some (.ref x)) (A : Arr s s.heap x cl ty) (e : (Term.elem t (.int j)).eval args s none [] s = some v) : cl.slots[j.toNatClampNeg]? = some v :=
  (elem_in e ht rfl A.1).2
/-- an array of the start: its length and components as the words say -/
theorem arr_of (hfit : Fit s) {vs : List Value} {dv : Value} (ht : t.eval args s none [] s = some (.ref x)) (h1 : (Cond.arrayOf t ty).value args s none s [] = some true) (h2 : (Cond.eq (.length t) (.int z)).value args s none s [] = some true) (hz : ¬ z < 0) (hl : z.toNatClampNeg = vs.length)
    (h3 : ∀ (i : Nat) (hi : i < vs.length), (Term.elem t (.int (Int32.ofNat i))).eval args s none [] s = some vs[i]) (hbig : vs.length < 2 ^ 31) : ∃ kc, Arv s s.heap x kc ty z vs dv := by
  obtain ⟨cl, A⟩ := Arr.start ht h1
  obtain ⟨q1, q2⟩ := lenI ht A h2
  have hsz : cl.slots.size = vs.length := by
    rw [← hl, ← q2, Int32.toNatClampNeg, len_toInt q1]; simp
  have hat : ∀ (i : Nat) (hi : i < vs.length), cl.slots[i]? = some vs[i] := fun i hi => by
    have e := elemI ht A (h3 i hi)
    have ei : (Int32.ofNat i).toNatClampNeg = i := by
      have : (Int32.ofNat i).toInt = i := Int32.toInt_ofNat_small (by omega)
      rw [Int32.toNatClampNeg, this]; simp
    rw [ei] at e
    exact e
  refine ⟨cl.cls, cl, A, rfl, hsz.trans hl.symm, hz, fun i hi => ?_, fun i hi => ?_⟩
  · have hi' : i < vs.length := by omega
    rw [hat i hi', List.getD_eq_getElem?_getD, List.getElem?_eq_getElem hi']; rfl
  · have hi' : i < vs.length := by omega
    have ei : i.toInt32.toNatClampNeg = i := by
      have : (Int32.ofNat i).toInt = i := Int32.toInt_ofNat_small (by omega)
      show (Int32.ofNat i).toNatClampNeg = i
      rw [Int32.toNatClampNeg, this]; simp
    have e : cl.slots[i.toInt32.toNatClampNeg]? = some (vs.getD i dv) := by rw [ei, hat i hi', List.getD_eq_getElem?_getD, List.getElem?_eq_getElem hi']; rfl
    exact elem_fits hfit A (idx_in (by omega) q1) e
theorem fld_start {C n d : String} {v : Value} (ht : t.eval args s none [] s = some (.ref x)) (h : (Term.field t C n d).eval args s none [] s = some v) : Fld s s.heap x C n d v := Fld.start ((fld_at ht).symm.trans h)
end Words
end Ow
end Jvm.Pilot.@@N@@
namespace Jvm.Pilot.@@N@@
open Jvm Jvm.ClassFile Sem Op Lib Jvm.Free Jvm.Stand Jvm.LawKit Jvm.RoadKit Bundle Jvm.Pilot.@@N@@.Jvm.D
namespace Ow
section Four
variable {l : Launch} {nw : Bool} {Z : State} {EL : List (String × Nat)} {a0 : Array Value} {n0 : Nat} {y : MethodName} {B : ByteArray} {ml : Nat} {ret : Option FieldType} {R : Room} {h0 : Heap} {Post : Option Value → Heap → Prop} {fs : List Addr} {h : Heap} {ce sl pc pc' : Nat} {L : Array Slot} {S : List Value}
theorem dup2 {x z : Value} (hd : decode B pc = .ok (.dup2, 1)) (h1 : x.category = 1) (h2 : z.category = 1) (hp : pc + 1 = pc') (K : Wq l nw Z EL a0 n0 y B ml ret R h0 Post fs h ce sl pc' L (x :: z :: x :: z :: S)) : Wq l nw Z EL a0 n0 y B ml ret R h0 Post fs h ce sl pc L (x :: z :: S) :=
  pu (fun h hx hb q => by subst hp; exact Jvm.Free.XT.dup2 h hx rfl (Jvm.hb hb hd) rfl h1 h2 q) K
theorem lswHit {k : Int32} {dflt a off : Int} {pairs : Array (Int × Int)} {len : Nat} (hd : decode B pc = .ok (.lookupswitch dflt pairs, len)) (hso : (pairs.toList.zip (pairs.toList.drop 1)).all (fun (a, next) => a.1 < next.1) = true) (hf : pairs.find? (·.1 == k.toInt) = some (a, off)) (ho : 0 ≤ (pc : Int) + off) (hp : ((pc : Int) + off).toNat = pc') (K : Wq l nw Z EL a0 n0 y B ml ret R h0 Post fs h ce sl pc' L S) : Wq l nw Z EL a0 n0 y B ml ret R h0 Post fs h ce sl pc L (.int k :: S) :=
  same (fun {p e s m args below meth c T locs} hx hby hown hZ hw hT _ X => by subst hp; exact ⟨T, X, hT, fun u q => X.lookupswitchHit hx (g := mkF _ pc L (.int k :: S)) rfl rfl (Jvm.hb hby hd) hso hf ho u q⟩) K
theorem lswMiss {k : Int32} {dflt : Int} {pairs : Array (Int × Int)} {len : Nat} (hd : decode B pc = .ok (.lookupswitch dflt pairs, len)) (hso : (pairs.toList.zip (pairs.toList.drop 1)).all (fun (a, next) => a.1 < next.1) = true) (hf : pairs.find? (·.1 == k.toInt) = none) (ho : 0 ≤ (pc : Int) + dflt) (hp : ((pc : Int) + dflt).toNat = pc') (K : Wq l nw Z EL a0 n0 y B ml ret R h0 Post fs h ce sl pc' L S) : Wq l nw Z EL a0 n0 y B ml ret R h0 Post fs h ce sl pc L (.int k :: S) :=
  same (fun {p e s m args below meth c T locs} hx hby hown hZ hw hT _ X => by subst hp; exact ⟨T, X, hT, fun u q => X.lookupswitchMiss hx (g := mkF _ pc L (.int k :: S)) rfl rfl (Jvm.hb hby hd) hso hf ho u q⟩) K
/-- a callee by a pure law of the library's -/
theorem callJP {z : MethodName} {len Wd : Nat} {as' : Array Value} {P : Array Value → State → Prop} {v : Value} {S' : List Value} (kd : Kd l Z a0 y B ml R h ce sl pc L S z len Wd as' S')
    (hK : ∀ {p : Program} {e : Env} {below : List Frame} {s : State} {args : Array Value}, Z.Warmed39 s.vm → (∀ d ∈ tables_1, d.before a0 Z = true) → Back l R p e below s args z len Wd (fun A a => A.cells + 0 ≤ R.cells ∧ A.slots + 0 ≤ R.slots ∧ P a A.U) (fun A _ w B => Jvm.Free.XT.PureE (some v) w A.U B.U ∧ B.locs = A.locs ++ [] ∧ B.cells = A.cells + 0 ∧ B.slots = A.slots + 0))
    (hP : ∀ U, P as' U) (hc : ce ≤ R.cells) (hs : sl ≤ R.slots) (hp : pc + len = pc') (K : Wq l nw Z EL a0 n0 y B ml ret R h0 Post fs h ce sl pc' L (v :: S')) : Wq l nw Z EL a0 n0 y B ml ret R h0 Post fs h ce sl pc L S := fun p e s m args below meth c T locs vm k C => by
  obtain ⟨⟨hx, hby, hml, hret, hlk, hnm, hown, hh0⟩, ⟨hZ, hw, hEL, hnw⟩, X, hT, ⟨hN, hO⟩, ⟨hS, hk⟩, hC, hF⟩ := C
  subst hp
  obtain ⟨w, vm₁, ⟨T', L', c', n'⟩, -, X', ⟨⟨hv, hh⟩, l1, l2, l3⟩, st⟩ := (kd p e (s.setVm vm) m args below meth c T locs hx hby hown hZ hw hT hml X).1 _ _ (hK (s := s.setVm vm) hZ hw) (fun vm₁ _ => ⟨hc, hs, hP _⟩)
  dsimp only [Pt.U, Pt.locs, Pt.cells, Pt.slots] at X' hh l1 l2 l3 st
  rw [List.append_nil] at l1
  subst l1 l2 l3 hv
  have e' : T'.heap = h := hh.trans hT
  exact (K p e s m args below meth c T' _ vm k ⟨⟨hx, hby, hml, hret, hlk, hnm, hown, hh0⟩, ⟨hZ, hw, hEL, hnw⟩, X', e', ⟨hN, hO⟩, ⟨hS, hk⟩, hC, hF⟩).st st
end Four
section Any
variable {args : Array Value} {s : State} {t u : Term} {x : Addr} {z : Int32} {cl : Cell} {ty : FieldType}
/-- an array of the start, its length known, its components as far as the words say -/
theorem arr_any (hfit : Fit s) {dv : Value} (ht : t.eval args s none [] s = some (.ref x)) (h1 : (Cond.arrayOf t ty).value args s none s [] = some true) (h2 : (Cond.eq (.length t) (.int z)).value args s none s [] = some true) (hz : ¬ z < 0) : ∃ (kc : ClassId) (vs : List Value), Arv s s.heap x kc ty z vs dv ∧ ∀ (i : Nat) (v : Value), i < 2 ^ 31 → (Term.elem t (.int (Int32.ofNat i))).eval args s none [] s = some v → vs.getD i dv = v := by
  obtain ⟨cl, A⟩ := Arr.start ht h1
  obtain ⟨q1, q2⟩ := lenI ht A h2
  have hsz : cl.slots.size = z.toNatClampNeg := by
    rw [← q2, Int32.toNatClampNeg, len_toInt q1]; simp
  have hg : ∀ i, i < cl.slots.size → cl.slots[i]? = some (cl.slots.toList.getD i dv) := fun i hi => by
    rw [List.getD_eq_getElem?_getD, Array.getElem?_toList, Array.getElem?_eq_getElem hi]; rfl
  have hn : ∀ i : Nat, i < 2 ^ 31 → (Int32.ofNat i).toNatClampNeg = i := fun i hi => by
    have : (Int32.ofNat i).toInt = i := Int32.toInt_ofNat_small (by omega)
    rw [Int32.toNatClampNeg, this]; simp
  refine ⟨cl.cls, cl.slots.toList, ⟨cl, A, rfl, hsz, hz, fun i hi => hg i hi, fun i hi => ?_⟩, fun i v hi e => ?_⟩
  · have e : cl.slots[i.toInt32.toNatClampNeg]? = some (cl.slots.toList.getD i dv) := by rw [show i.toInt32.toNatClampNeg = i from hn i (by omega)]; exact hg i hi
    exact elem_fits hfit A (idx_in (by omega) q1) e
  · have e' := elemI ht A e
    rw [hn i hi] at e'
    obtain ⟨hi', -⟩ := Array.getElem?_eq_some_iff.mp e'
    rw [hg i hi'] at e'
    exact Option.some.inj e'
end Any
end Ow
end Jvm.Pilot.@@N@@
namespace Jvm.Pilot.@@N@@
open Jvm Jvm.ClassFile Sem Op Lib Jvm.Free Jvm.Stand Jvm.LawKit Jvm.RoadKit Bundle Jvm.Pilot.@@N@@.Jvm.D Ow
theorem daa0 : decode jdk_18_method_1_code 0 = .ok (.aload_n 0, 1) := by decide +kernel
theorem daa1 : decode jdk_18_method_1_code 1 = .ok (.invokespecial 1, 3) := by decide +kernel
theorem daa4 : decode jdk_18_method_1_code 4 = .ok (.return_, 1) := by decide +kernel
theorem dab0 : decode jdk_2097_method_25_code 0 = .ok (.aload_n 0, 1) := by decide +kernel
theorem dab1 : decode jdk_2097_method_25_code 1 = .ok (.invokespecial 3, 3) := by decide +kernel
theorem dab4 : decode jdk_2097_method_25_code 4 = .ok (.aload_n 0, 1) := by decide +kernel
theorem dab5 : decode jdk_2097_method_25_code 5 = .ok (.aload_n 1, 1) := by decide +kernel
theorem dab6 : decode jdk_2097_method_25_code 6 = .ok (.arraylength, 1) := by decide +kernel
theorem dab7 : decode jdk_2097_method_25_code 7 = .ok (.ifCond .ne 7, 3) := by decide +kernel
theorem dab14 : decode jdk_2097_method_25_code 14 = .ok (.iload_n 2, 1) := by decide +kernel
theorem dab15 : decode jdk_2097_method_25_code 15 = .ok (.putfield 32, 3) := by decide +kernel
theorem dab18 : decode jdk_2097_method_25_code 18 = .ok (.aload_n 0, 1) := by decide +kernel
theorem dab19 : decode jdk_2097_method_25_code 19 = .ok (.aload_n 1, 1) := by decide +kernel
theorem dab20 : decode jdk_2097_method_25_code 20 = .ok (.putfield 28, 3) := by decide +kernel
theorem dab23 : decode jdk_2097_method_25_code 23 = .ok (.aload_n 0, 1) := by decide +kernel
theorem dab24 : decode jdk_2097_method_25_code 24 = .ok (.getfield 28, 3) := by decide +kernel
theorem dab27 : decode jdk_2097_method_25_code 27 = .ok (.arraylength, 1) := by decide +kernel
theorem dab28 : decode jdk_2097_method_25_code 28 = .ok (.ldc 43, 2) := by decide +kernel
theorem dab30 : decode jdk_2097_method_25_code 30 = .ok (.if_icmp .lt 7, 3) := by decide +kernel
theorem dab37 : decode jdk_2097_method_25_code 37 = .ok (.return_, 1) := by decide +kernel
theorem dac0 : decode jdk_2101_method_1_code 0 = .ok (.aload_n 0, 1) := by decide +kernel
theorem dac1 : decode jdk_2101_method_1_code 1 = .ok (.invokespecial 5, 3) := by decide +kernel
theorem dac4 : decode jdk_2101_method_1_code 4 = .ok (.aload_n 0, 1) := by decide +kernel
theorem dac5 : decode jdk_2101_method_1_code 5 = .ok (.iconst 0, 1) := by decide +kernel
theorem dac6 : decode jdk_2101_method_1_code 6 = .ok (.putfield 11, 3) := by decide +kernel
theorem dac9 : decode jdk_2101_method_1_code 9 = .ok (.aload_n 0, 1) := by decide +kernel
theorem dac10 : decode jdk_2101_method_1_code 10 = .ok (.iconst 1, 1) := by decide +kernel
theorem dac11 : decode jdk_2101_method_1_code 11 = .ok (.newarray .int, 2) := by decide +kernel
theorem dac13 : decode jdk_2101_method_1_code 13 = .ok (.putfield 17, 3) := by decide +kernel
theorem dac16 : decode jdk_2101_method_1_code 16 = .ok (.aload_n 0, 1) := by decide +kernel
theorem dac17 : decode jdk_2101_method_1_code 17 = .ok (.iconst 0, 1) := by decide +kernel
theorem dac18 : decode jdk_2101_method_1_code 18 = .ok (.putfield 21, 3) := by decide +kernel
theorem dac21 : decode jdk_2101_method_1_code 21 = .ok (.return_, 1) := by decide +kernel
theorem dad0 : decode jdk_65_method_123_code 0 = .ok (.iload_n 1, 1) := by decide +kernel
theorem dad1 : decode jdk_65_method_123_code 1 = .ok (.aload_n 0, 1) := by decide +kernel
theorem dad2 : decode jdk_65_method_123_code 2 = .ok (.arraylength, 1) := by decide +kernel
theorem dad3 : decode jdk_65_method_123_code 3 = .ok (.if_icmp .ne 11, 3) := by decide +kernel
theorem dad6 : decode jdk_65_method_123_code 6 = .ok (.aload_n 0, 1) := by decide +kernel
theorem dad7 : decode jdk_65_method_123_code 7 = .ok (.invokevirtual 316, 3) := by decide +kernel
theorem dad10 : decode jdk_65_method_123_code 10 = .ok (.checkcast 317, 3) := by decide +kernel
theorem dad13 : decode jdk_65_method_123_code 13 = .ok (.areturn, 1) := by decide +kernel
theorem dae0 : decode jdk_2101_method_4_code 0 = .ok (.aload_n 0, 1) := by decide +kernel
theorem dae1 : decode jdk_2101_method_4_code 1 = .ok (.invokespecial 5, 3) := by decide +kernel
theorem dae4 : decode jdk_2101_method_4_code 4 = .ok (.aload_n 0, 1) := by decide +kernel
theorem dae5 : decode jdk_2101_method_4_code 5 = .ok (.iconst 0, 1) := by decide +kernel
theorem dae6 : decode jdk_2101_method_4_code 6 = .ok (.putfield 11, 3) := by decide +kernel
theorem dae9 : decode jdk_2101_method_4_code 9 = .ok (.aload_n 0, 1) := by decide +kernel
theorem dae10 : decode jdk_2101_method_4_code 10 = .ok (.aload_n 1, 1) := by decide +kernel
theorem dae11 : decode jdk_2101_method_4_code 11 = .ok (.getfield 24, 3) := by decide +kernel
theorem dae14 : decode jdk_2101_method_4_code 14 = .ok (.arraylength, 1) := by decide +kernel
theorem dae15 : decode jdk_2101_method_4_code 15 = .ok (.putfield 21, 3) := by decide +kernel
theorem dae18 : decode jdk_2101_method_4_code 18 = .ok (.aload_n 0, 1) := by decide +kernel
theorem dae19 : decode jdk_2101_method_4_code 19 = .ok (.aload_n 1, 1) := by decide +kernel
theorem dae20 : decode jdk_2101_method_4_code 20 = .ok (.getfield 24, 3) := by decide +kernel
theorem dae23 : decode jdk_2101_method_4_code 23 = .ok (.aload_n 0, 1) := by decide +kernel
theorem dae24 : decode jdk_2101_method_4_code 24 = .ok (.getfield 21, 3) := by decide +kernel
theorem dae27 : decode jdk_2101_method_4_code 27 = .ok (.invokestatic 27, 3) := by decide +kernel
theorem dae30 : decode jdk_2101_method_4_code 30 = .ok (.putfield 17, 3) := by decide +kernel
theorem dae33 : decode jdk_2101_method_4_code 33 = .ok (.return_, 1) := by decide +kernel
theorem daf0 : decode jdk_2101_method_3_code 0 = .ok (.aload_n 0, 1) := by decide +kernel
theorem daf1 : decode jdk_2101_method_3_code 1 = .ok (.invokespecial 5, 3) := by decide +kernel
theorem daf4 : decode jdk_2101_method_3_code 4 = .ok (.aload_n 0, 1) := by decide +kernel
theorem daf5 : decode jdk_2101_method_3_code 5 = .ok (.iconst 0, 1) := by decide +kernel
theorem daf6 : decode jdk_2101_method_3_code 6 = .ok (.putfield 11, 3) := by decide +kernel
theorem daf9 : decode jdk_2101_method_3_code 9 = .ok (.aload_n 0, 1) := by decide +kernel
theorem daf10 : decode jdk_2101_method_3_code 10 = .ok (.aload_n 1, 1) := by decide +kernel
theorem daf11 : decode jdk_2101_method_3_code 11 = .ok (.putfield 17, 3) := by decide +kernel
theorem daf14 : decode jdk_2101_method_3_code 14 = .ok (.aload_n 0, 1) := by decide +kernel
theorem daf15 : decode jdk_2101_method_3_code 15 = .ok (.aload_n 1, 1) := by decide +kernel
theorem daf16 : decode jdk_2101_method_3_code 16 = .ok (.arraylength, 1) := by decide +kernel
theorem daf17 : decode jdk_2101_method_3_code 17 = .ok (.putfield 21, 3) := by decide +kernel
theorem daf20 : decode jdk_2101_method_3_code 20 = .ok (.return_, 1) := by decide +kernel
theorem dag0 : decode jdk_2097_method_74_code 0 = .ok (.bipush 32, 2) := by decide +kernel
theorem dag2 : decode jdk_2097_method_74_code 2 = .ok (.iload_n 0, 1) := by decide +kernel
theorem dag3 : decode jdk_2097_method_74_code 3 = .ok (.invokestatic 602, 3) := by decide +kernel
theorem dag6 : decode jdk_2097_method_74_code 6 = .ok (.isub, 1) := by decide +kernel
theorem dag7 : decode jdk_2097_method_74_code 7 = .ok (.ireturn, 1) := by decide +kernel
theorem dah0 : decode jdk_2101_method_18_code 0 = .ok (.aload_n 0, 1) := by decide +kernel
theorem dah1 : decode jdk_2101_method_18_code 1 = .ok (.getfield 21, 3) := by decide +kernel
theorem dah4 : decode jdk_2101_method_18_code 4 = .ok (.ifCond .ne 5, 3) := by decide +kernel
theorem dah9 : decode jdk_2101_method_18_code 9 = .ok (.aload_n 0, 1) := by decide +kernel
theorem dah10 : decode jdk_2101_method_18_code 10 = .ok (.getfield 21, 3) := by decide +kernel
theorem dah13 : decode jdk_2101_method_18_code 13 = .ok (.iconst 1, 1) := by decide +kernel
theorem dah14 : decode jdk_2101_method_18_code 14 = .ok (.isub, 1) := by decide +kernel
theorem dah15 : decode jdk_2101_method_18_code 15 = .ok (.istore_n 1, 1) := by decide +kernel
theorem dah16 : decode jdk_2101_method_18_code 16 = .ok (.iload_n 1, 1) := by decide +kernel
theorem dah17 : decode jdk_2101_method_18_code 17 = .ok (.ifCond .le 23, 3) := by decide +kernel
theorem dah20 : decode jdk_2101_method_18_code 20 = .ok (.aload_n 0, 1) := by decide +kernel
theorem dah21 : decode jdk_2101_method_18_code 21 = .ok (.getfield 17, 3) := by decide +kernel
theorem dah24 : decode jdk_2101_method_18_code 24 = .ok (.iload_n 1, 1) := by decide +kernel
theorem dah25 : decode jdk_2101_method_18_code 25 = .ok (.aload_n 0, 1) := by decide +kernel
theorem dah26 : decode jdk_2101_method_18_code 26 = .ok (.getfield 11, 3) := by decide +kernel
theorem dah29 : decode jdk_2101_method_18_code 29 = .ok (.iadd, 1) := by decide +kernel
theorem dah30 : decode jdk_2101_method_18_code 30 = .ok (.iaload, 1) := by decide +kernel
theorem dah31 : decode jdk_2101_method_18_code 31 = .ok (.ifCond .ne 9, 3) := by decide +kernel
theorem dah34 : decode jdk_2101_method_18_code 34 = .ok (.iinc 1 (-1), 3) := by decide +kernel
theorem dah37 : decode jdk_2101_method_18_code 37 = .ok (.goto (-21), 3) := by decide +kernel
theorem dah40 : decode jdk_2101_method_18_code 40 = .ok (.aload_n 0, 1) := by decide +kernel
theorem dah41 : decode jdk_2101_method_18_code 41 = .ok (.getfield 17, 3) := by decide +kernel
theorem dah44 : decode jdk_2101_method_18_code 44 = .ok (.iload_n 1, 1) := by decide +kernel
theorem dah45 : decode jdk_2101_method_18_code 45 = .ok (.aload_n 0, 1) := by decide +kernel
theorem dah46 : decode jdk_2101_method_18_code 46 = .ok (.getfield 11, 3) := by decide +kernel
theorem dah49 : decode jdk_2101_method_18_code 49 = .ok (.iadd, 1) := by decide +kernel
theorem dah50 : decode jdk_2101_method_18_code 50 = .ok (.iaload, 1) := by decide +kernel
theorem dah51 : decode jdk_2101_method_18_code 51 = .ok (.istore_n 2, 1) := by decide +kernel
theorem dah52 : decode jdk_2101_method_18_code 52 = .ok (.iload_n 2, 1) := by decide +kernel
theorem dah53 : decode jdk_2101_method_18_code 53 = .ok (.ifCond .ne 5, 3) := by decide +kernel
theorem dah58 : decode jdk_2101_method_18_code 58 = .ok (.aload_n 0, 1) := by decide +kernel
theorem dah59 : decode jdk_2101_method_18_code 59 = .ok (.getfield 21, 3) := by decide +kernel
theorem dah62 : decode jdk_2101_method_18_code 62 = .ok (.iconst 1, 1) := by decide +kernel
theorem dah63 : decode jdk_2101_method_18_code 63 = .ok (.isub, 1) := by decide +kernel
theorem dah64 : decode jdk_2101_method_18_code 64 = .ok (.iload_n 1, 1) := by decide +kernel
theorem dah65 : decode jdk_2101_method_18_code 65 = .ok (.isub, 1) := by decide +kernel
theorem dah66 : decode jdk_2101_method_18_code 66 = .ok (.iconst 5, 1) := by decide +kernel
theorem dah67 : decode jdk_2101_method_18_code 67 = .ok (.ishl, 1) := by decide +kernel
theorem dah68 : decode jdk_2101_method_18_code 68 = .ok (.iload_n 2, 1) := by decide +kernel
theorem dah69 : decode jdk_2101_method_18_code 69 = .ok (.invokestatic 89, 3) := by decide +kernel
theorem dah72 : decode jdk_2101_method_18_code 72 = .ok (.iadd, 1) := by decide +kernel
theorem dah73 : decode jdk_2101_method_18_code 73 = .ok (.ireturn, 1) := by decide +kernel
theorem dai0 : decode jdk_2101_method_41_code 0 = .ok (.aload_n 0, 1) := by decide +kernel
theorem dai1 : decode jdk_2101_method_41_code 1 = .ok (.getfield 17, 3) := by decide +kernel
theorem dai4 : decode jdk_2101_method_41_code 4 = .ok (.astore_n 2, 1) := by decide +kernel
theorem dai5 : decode jdk_2101_method_41_code 5 = .ok (.bipush 32, 2) := by decide +kernel
theorem dai7 : decode jdk_2101_method_41_code 7 = .ok (.iload_n 1, 1) := by decide +kernel
theorem dai8 : decode jdk_2101_method_41_code 8 = .ok (.isub, 1) := by decide +kernel
theorem dai9 : decode jdk_2101_method_41_code 9 = .ok (.istore_n 3, 1) := by decide +kernel
theorem dai10 : decode jdk_2101_method_41_code 10 = .ok (.aload_n 0, 1) := by decide +kernel
theorem dai11 : decode jdk_2101_method_41_code 11 = .ok (.getfield 11, 3) := by decide +kernel
theorem dai14 : decode jdk_2101_method_41_code 14 = .ok (.aload_n 0, 1) := by decide +kernel
theorem dai15 : decode jdk_2101_method_41_code 15 = .ok (.getfield 21, 3) := by decide +kernel
theorem dai18 : decode jdk_2101_method_41_code 18 = .ok (.iadd, 1) := by decide +kernel
theorem dai19 : decode jdk_2101_method_41_code 19 = .ok (.iconst 1, 1) := by decide +kernel
theorem dai20 : decode jdk_2101_method_41_code 20 = .ok (.isub, 1) := by decide +kernel
theorem dai21 : decode jdk_2101_method_41_code 21 = .ok (.istore 4, 2) := by decide +kernel
theorem dai23 : decode jdk_2101_method_41_code 23 = .ok (.aload_n 2, 1) := by decide +kernel
theorem dai24 : decode jdk_2101_method_41_code 24 = .ok (.iload 4, 2) := by decide +kernel
theorem dai26 : decode jdk_2101_method_41_code 26 = .ok (.iaload, 1) := by decide +kernel
theorem dai27 : decode jdk_2101_method_41_code 27 = .ok (.istore 5, 2) := by decide +kernel
theorem dai29 : decode jdk_2101_method_41_code 29 = .ok (.iload 4, 2) := by decide +kernel
theorem dai31 : decode jdk_2101_method_41_code 31 = .ok (.aload_n 0, 1) := by decide +kernel
theorem dai32 : decode jdk_2101_method_41_code 32 = .ok (.getfield 11, 3) := by decide +kernel
theorem dai35 : decode jdk_2101_method_41_code 35 = .ok (.if_icmp .le 34, 3) := by decide +kernel
theorem dai38 : decode jdk_2101_method_41_code 38 = .ok (.iload 5, 2) := by decide +kernel
theorem dai40 : decode jdk_2101_method_41_code 40 = .ok (.istore 6, 2) := by decide +kernel
theorem dai42 : decode jdk_2101_method_41_code 42 = .ok (.aload_n 2, 1) := by decide +kernel
theorem dai43 : decode jdk_2101_method_41_code 43 = .ok (.iload 4, 2) := by decide +kernel
theorem dai45 : decode jdk_2101_method_41_code 45 = .ok (.iconst 1, 1) := by decide +kernel
theorem dai46 : decode jdk_2101_method_41_code 46 = .ok (.isub, 1) := by decide +kernel
theorem dai47 : decode jdk_2101_method_41_code 47 = .ok (.iaload, 1) := by decide +kernel
theorem dai48 : decode jdk_2101_method_41_code 48 = .ok (.istore 5, 2) := by decide +kernel
theorem dai50 : decode jdk_2101_method_41_code 50 = .ok (.aload_n 2, 1) := by decide +kernel
theorem dai51 : decode jdk_2101_method_41_code 51 = .ok (.iload 4, 2) := by decide +kernel
theorem dai53 : decode jdk_2101_method_41_code 53 = .ok (.iload 5, 2) := by decide +kernel
theorem dai55 : decode jdk_2101_method_41_code 55 = .ok (.iload_n 3, 1) := by decide +kernel
theorem dai56 : decode jdk_2101_method_41_code 56 = .ok (.ishl, 1) := by decide +kernel
theorem dai57 : decode jdk_2101_method_41_code 57 = .ok (.iload 6, 2) := by decide +kernel
theorem dai59 : decode jdk_2101_method_41_code 59 = .ok (.iload_n 1, 1) := by decide +kernel
theorem dai60 : decode jdk_2101_method_41_code 60 = .ok (.iushr, 1) := by decide +kernel
theorem dai61 : decode jdk_2101_method_41_code 61 = .ok (.ior, 1) := by decide +kernel
theorem dai62 : decode jdk_2101_method_41_code 62 = .ok (.iastore, 1) := by decide +kernel
theorem dai63 : decode jdk_2101_method_41_code 63 = .ok (.iinc 4 (-1), 3) := by decide +kernel
theorem dai66 : decode jdk_2101_method_41_code 66 = .ok (.goto (-37), 3) := by decide +kernel
theorem dai69 : decode jdk_2101_method_41_code 69 = .ok (.aload_n 2, 1) := by decide +kernel
theorem dai70 : decode jdk_2101_method_41_code 70 = .ok (.aload_n 0, 1) := by decide +kernel
theorem dai71 : decode jdk_2101_method_41_code 71 = .ok (.getfield 11, 3) := by decide +kernel
theorem dai74 : decode jdk_2101_method_41_code 74 = .ok (.dup2, 1) := by decide +kernel
theorem dai75 : decode jdk_2101_method_41_code 75 = .ok (.iaload, 1) := by decide +kernel
theorem dai76 : decode jdk_2101_method_41_code 76 = .ok (.iload_n 1, 1) := by decide +kernel
theorem dai77 : decode jdk_2101_method_41_code 77 = .ok (.iushr, 1) := by decide +kernel
theorem dai78 : decode jdk_2101_method_41_code 78 = .ok (.iastore, 1) := by decide +kernel
theorem dai79 : decode jdk_2101_method_41_code 79 = .ok (.return_, 1) := by decide +kernel
theorem daj0 : decode jdk_2101_method_42_code 0 = .ok (.aload_n 0, 1) := by decide +kernel
theorem daj1 : decode jdk_2101_method_42_code 1 = .ok (.getfield 17, 3) := by decide +kernel
theorem daj4 : decode jdk_2101_method_42_code 4 = .ok (.astore_n 2, 1) := by decide +kernel
theorem daj5 : decode jdk_2101_method_42_code 5 = .ok (.bipush 32, 2) := by decide +kernel
theorem daj7 : decode jdk_2101_method_42_code 7 = .ok (.iload_n 1, 1) := by decide +kernel
theorem daj8 : decode jdk_2101_method_42_code 8 = .ok (.isub, 1) := by decide +kernel
theorem daj9 : decode jdk_2101_method_42_code 9 = .ok (.istore_n 3, 1) := by decide +kernel
theorem daj10 : decode jdk_2101_method_42_code 10 = .ok (.aload_n 0, 1) := by decide +kernel
theorem daj11 : decode jdk_2101_method_42_code 11 = .ok (.getfield 11, 3) := by decide +kernel
theorem daj14 : decode jdk_2101_method_42_code 14 = .ok (.istore 4, 2) := by decide +kernel
theorem daj16 : decode jdk_2101_method_42_code 16 = .ok (.aload_n 2, 1) := by decide +kernel
theorem daj17 : decode jdk_2101_method_42_code 17 = .ok (.iload 4, 2) := by decide +kernel
theorem daj19 : decode jdk_2101_method_42_code 19 = .ok (.iaload, 1) := by decide +kernel
theorem daj20 : decode jdk_2101_method_42_code 20 = .ok (.istore 5, 2) := by decide +kernel
theorem daj22 : decode jdk_2101_method_42_code 22 = .ok (.iload 4, 2) := by decide +kernel
theorem daj24 : decode jdk_2101_method_42_code 24 = .ok (.aload_n 0, 1) := by decide +kernel
theorem daj25 : decode jdk_2101_method_42_code 25 = .ok (.getfield 21, 3) := by decide +kernel
theorem daj28 : decode jdk_2101_method_42_code 28 = .ok (.iadd, 1) := by decide +kernel
theorem daj29 : decode jdk_2101_method_42_code 29 = .ok (.iconst 1, 1) := by decide +kernel
theorem daj30 : decode jdk_2101_method_42_code 30 = .ok (.isub, 1) := by decide +kernel
theorem daj31 : decode jdk_2101_method_42_code 31 = .ok (.istore 6, 2) := by decide +kernel
theorem daj33 : decode jdk_2101_method_42_code 33 = .ok (.iload 4, 2) := by decide +kernel
theorem daj35 : decode jdk_2101_method_42_code 35 = .ok (.iload 6, 2) := by decide +kernel
theorem daj37 : decode jdk_2101_method_42_code 37 = .ok (.if_icmp .ge 34, 3) := by decide +kernel
theorem daj40 : decode jdk_2101_method_42_code 40 = .ok (.iload 5, 2) := by decide +kernel
theorem daj42 : decode jdk_2101_method_42_code 42 = .ok (.istore 7, 2) := by decide +kernel
theorem daj44 : decode jdk_2101_method_42_code 44 = .ok (.aload_n 2, 1) := by decide +kernel
theorem daj45 : decode jdk_2101_method_42_code 45 = .ok (.iload 4, 2) := by decide +kernel
theorem daj47 : decode jdk_2101_method_42_code 47 = .ok (.iconst 1, 1) := by decide +kernel
theorem daj48 : decode jdk_2101_method_42_code 48 = .ok (.iadd, 1) := by decide +kernel
theorem daj49 : decode jdk_2101_method_42_code 49 = .ok (.iaload, 1) := by decide +kernel
theorem daj50 : decode jdk_2101_method_42_code 50 = .ok (.istore 5, 2) := by decide +kernel
theorem daj52 : decode jdk_2101_method_42_code 52 = .ok (.aload_n 2, 1) := by decide +kernel
theorem daj53 : decode jdk_2101_method_42_code 53 = .ok (.iload 4, 2) := by decide +kernel
theorem daj55 : decode jdk_2101_method_42_code 55 = .ok (.iload 7, 2) := by decide +kernel
theorem daj57 : decode jdk_2101_method_42_code 57 = .ok (.iload_n 1, 1) := by decide +kernel
theorem daj58 : decode jdk_2101_method_42_code 58 = .ok (.ishl, 1) := by decide +kernel
theorem daj59 : decode jdk_2101_method_42_code 59 = .ok (.iload 5, 2) := by decide +kernel
theorem daj61 : decode jdk_2101_method_42_code 61 = .ok (.iload_n 3, 1) := by decide +kernel
theorem daj62 : decode jdk_2101_method_42_code 62 = .ok (.iushr, 1) := by decide +kernel
theorem daj63 : decode jdk_2101_method_42_code 63 = .ok (.ior, 1) := by decide +kernel
theorem daj64 : decode jdk_2101_method_42_code 64 = .ok (.iastore, 1) := by decide +kernel
theorem daj65 : decode jdk_2101_method_42_code 65 = .ok (.iinc 4 1, 3) := by decide +kernel
theorem daj68 : decode jdk_2101_method_42_code 68 = .ok (.goto (-35), 3) := by decide +kernel
theorem daj71 : decode jdk_2101_method_42_code 71 = .ok (.aload_n 2, 1) := by decide +kernel
theorem daj72 : decode jdk_2101_method_42_code 72 = .ok (.aload_n 0, 1) := by decide +kernel
theorem daj73 : decode jdk_2101_method_42_code 73 = .ok (.getfield 11, 3) := by decide +kernel
theorem daj76 : decode jdk_2101_method_42_code 76 = .ok (.aload_n 0, 1) := by decide +kernel
theorem daj77 : decode jdk_2101_method_42_code 77 = .ok (.getfield 21, 3) := by decide +kernel
theorem daj80 : decode jdk_2101_method_42_code 80 = .ok (.iadd, 1) := by decide +kernel
theorem daj81 : decode jdk_2101_method_42_code 81 = .ok (.iconst 1, 1) := by decide +kernel
theorem daj82 : decode jdk_2101_method_42_code 82 = .ok (.isub, 1) := by decide +kernel
theorem daj83 : decode jdk_2101_method_42_code 83 = .ok (.dup2, 1) := by decide +kernel
theorem daj84 : decode jdk_2101_method_42_code 84 = .ok (.iaload, 1) := by decide +kernel
theorem daj85 : decode jdk_2101_method_42_code 85 = .ok (.iload_n 1, 1) := by decide +kernel
theorem daj86 : decode jdk_2101_method_42_code 86 = .ok (.ishl, 1) := by decide +kernel
theorem daj87 : decode jdk_2101_method_42_code 87 = .ok (.iastore, 1) := by decide +kernel
theorem daj88 : decode jdk_2101_method_42_code 88 = .ok (.return_, 1) := by decide +kernel
theorem dak0 : decode jdk_2101_method_35_code 0 = .ok (.aload_n 0, 1) := by decide +kernel
theorem dak1 : decode jdk_2101_method_35_code 1 = .ok (.getfield 21, 3) := by decide +kernel
theorem dak4 : decode jdk_2101_method_35_code 4 = .ok (.ifCond .ne 4, 3) := by decide +kernel
theorem dak8 : decode jdk_2101_method_35_code 8 = .ok (.iload_n 1, 1) := by decide +kernel
theorem dak9 : decode jdk_2101_method_35_code 9 = .ok (.iconst 5, 1) := by decide +kernel
theorem dak10 : decode jdk_2101_method_35_code 10 = .ok (.iushr, 1) := by decide +kernel
theorem dak11 : decode jdk_2101_method_35_code 11 = .ok (.istore_n 2, 1) := by decide +kernel
theorem dak12 : decode jdk_2101_method_35_code 12 = .ok (.iload_n 1, 1) := by decide +kernel
theorem dak13 : decode jdk_2101_method_35_code 13 = .ok (.bipush 31, 2) := by decide +kernel
theorem dak15 : decode jdk_2101_method_35_code 15 = .ok (.iand, 1) := by decide +kernel
theorem dak16 : decode jdk_2101_method_35_code 16 = .ok (.istore_n 3, 1) := by decide +kernel
theorem dak17 : decode jdk_2101_method_35_code 17 = .ok (.aload_n 0, 1) := by decide +kernel
theorem dak18 : decode jdk_2101_method_35_code 18 = .ok (.dup, 1) := by decide +kernel
theorem dak19 : decode jdk_2101_method_35_code 19 = .ok (.getfield 21, 3) := by decide +kernel
theorem dak22 : decode jdk_2101_method_35_code 22 = .ok (.iload_n 2, 1) := by decide +kernel
theorem dak23 : decode jdk_2101_method_35_code 23 = .ok (.isub, 1) := by decide +kernel
theorem dak24 : decode jdk_2101_method_35_code 24 = .ok (.putfield 21, 3) := by decide +kernel
theorem dak27 : decode jdk_2101_method_35_code 27 = .ok (.iload_n 3, 1) := by decide +kernel
theorem dak28 : decode jdk_2101_method_35_code 28 = .ok (.ifCond .ne 4, 3) := by decide +kernel
theorem dak31 : decode jdk_2101_method_35_code 31 = .ok (.return_, 1) := by decide +kernel
theorem dak32 : decode jdk_2101_method_35_code 32 = .ok (.aload_n 0, 1) := by decide +kernel
theorem dak33 : decode jdk_2101_method_35_code 33 = .ok (.getfield 17, 3) := by decide +kernel
theorem dak36 : decode jdk_2101_method_35_code 36 = .ok (.aload_n 0, 1) := by decide +kernel
theorem dak37 : decode jdk_2101_method_35_code 37 = .ok (.getfield 11, 3) := by decide +kernel
theorem dak40 : decode jdk_2101_method_35_code 40 = .ok (.iaload, 1) := by decide +kernel
theorem dak41 : decode jdk_2101_method_35_code 41 = .ok (.invokestatic 112, 3) := by decide +kernel
theorem dak44 : decode jdk_2101_method_35_code 44 = .ok (.istore 4, 2) := by decide +kernel
theorem dak46 : decode jdk_2101_method_35_code 46 = .ok (.iload_n 3, 1) := by decide +kernel
theorem dak47 : decode jdk_2101_method_35_code 47 = .ok (.iload 4, 2) := by decide +kernel
theorem dak49 : decode jdk_2101_method_35_code 49 = .ok (.if_icmp .lt 24, 3) := by decide +kernel
theorem dak52 : decode jdk_2101_method_35_code 52 = .ok (.aload_n 0, 1) := by decide +kernel
theorem dak53 : decode jdk_2101_method_35_code 53 = .ok (.bipush 32, 2) := by decide +kernel
theorem dak55 : decode jdk_2101_method_35_code 55 = .ok (.iload_n 3, 1) := by decide +kernel
theorem dak56 : decode jdk_2101_method_35_code 56 = .ok (.isub, 1) := by decide +kernel
theorem dak57 : decode jdk_2101_method_35_code 57 = .ok (.invokevirtual 115, 3) := by decide +kernel
theorem dak60 : decode jdk_2101_method_35_code 60 = .ok (.aload_n 0, 1) := by decide +kernel
theorem dak61 : decode jdk_2101_method_35_code 61 = .ok (.dup, 1) := by decide +kernel
theorem dak62 : decode jdk_2101_method_35_code 62 = .ok (.getfield 21, 3) := by decide +kernel
theorem dak65 : decode jdk_2101_method_35_code 65 = .ok (.iconst 1, 1) := by decide +kernel
theorem dak66 : decode jdk_2101_method_35_code 66 = .ok (.isub, 1) := by decide +kernel
theorem dak67 : decode jdk_2101_method_35_code 67 = .ok (.putfield 21, 3) := by decide +kernel
theorem dak70 : decode jdk_2101_method_35_code 70 = .ok (.goto 8, 3) := by decide +kernel
theorem dak73 : decode jdk_2101_method_35_code 73 = .ok (.aload_n 0, 1) := by decide +kernel
theorem dak74 : decode jdk_2101_method_35_code 74 = .ok (.iload_n 3, 1) := by decide +kernel
theorem dak75 : decode jdk_2101_method_35_code 75 = .ok (.invokevirtual 118, 3) := by decide +kernel
theorem dak78 : decode jdk_2101_method_35_code 78 = .ok (.return_, 1) := by decide +kernel
theorem dal0 : decode jdk_2101_method_21_code 0 = .ok (.aload_n 0, 1) := by decide +kernel
theorem dal1 : decode jdk_2101_method_21_code 1 = .ok (.getfield 21, 3) := by decide +kernel
theorem dal4 : decode jdk_2101_method_21_code 4 = .ok (.ifCond .ne 9, 3) := by decide +kernel
theorem dal13 : decode jdk_2101_method_21_code 13 = .ok (.aload_n 0, 1) := by decide +kernel
theorem dal14 : decode jdk_2101_method_21_code 14 = .ok (.getfield 11, 3) := by decide +kernel
theorem dal17 : decode jdk_2101_method_21_code 17 = .ok (.istore_n 1, 1) := by decide +kernel
theorem dal18 : decode jdk_2101_method_21_code 18 = .ok (.aload_n 0, 1) := by decide +kernel
theorem dal19 : decode jdk_2101_method_21_code 19 = .ok (.getfield 17, 3) := by decide +kernel
theorem dal22 : decode jdk_2101_method_21_code 22 = .ok (.iload_n 1, 1) := by decide +kernel
theorem dal23 : decode jdk_2101_method_21_code 23 = .ok (.iaload, 1) := by decide +kernel
theorem dal24 : decode jdk_2101_method_21_code 24 = .ok (.ifCond .eq 4, 3) := by decide +kernel
theorem dal27 : decode jdk_2101_method_21_code 27 = .ok (.return_, 1) := by decide +kernel
theorem dam0 : decode jdk_2101_method_15_code 0 = .ok (.aload_n 1, 1) := by decide +kernel
theorem dam1 : decode jdk_2101_method_15_code 1 = .ok (.getfield 21, 3) := by decide +kernel
theorem dam4 : decode jdk_2101_method_15_code 4 = .ok (.istore_n 2, 1) := by decide +kernel
theorem dam5 : decode jdk_2101_method_15_code 5 = .ok (.aload_n 0, 1) := by decide +kernel
theorem dam6 : decode jdk_2101_method_15_code 6 = .ok (.getfield 21, 3) := by decide +kernel
theorem dam9 : decode jdk_2101_method_15_code 9 = .ok (.iload_n 2, 1) := by decide +kernel
theorem dam10 : decode jdk_2101_method_15_code 10 = .ok (.if_icmp .ge 5, 3) := by decide +kernel
theorem dam15 : decode jdk_2101_method_15_code 15 = .ok (.aload_n 0, 1) := by decide +kernel
theorem dam16 : decode jdk_2101_method_15_code 16 = .ok (.getfield 21, 3) := by decide +kernel
theorem dam19 : decode jdk_2101_method_15_code 19 = .ok (.iload_n 2, 1) := by decide +kernel
theorem dam20 : decode jdk_2101_method_15_code 20 = .ok (.if_icmp .le 5, 3) := by decide +kernel
theorem dam23 : decode jdk_2101_method_15_code 23 = .ok (.iconst 1, 1) := by decide +kernel
theorem dam24 : decode jdk_2101_method_15_code 24 = .ok (.ireturn, 1) := by decide +kernel
theorem dam25 : decode jdk_2101_method_15_code 25 = .ok (.aload_n 1, 1) := by decide +kernel
theorem dam26 : decode jdk_2101_method_15_code 26 = .ok (.getfield 17, 3) := by decide +kernel
theorem dam29 : decode jdk_2101_method_15_code 29 = .ok (.astore_n 3, 1) := by decide +kernel
theorem dam30 : decode jdk_2101_method_15_code 30 = .ok (.aload_n 0, 1) := by decide +kernel
theorem dam31 : decode jdk_2101_method_15_code 31 = .ok (.getfield 11, 3) := by decide +kernel
theorem dam34 : decode jdk_2101_method_15_code 34 = .ok (.istore 4, 2) := by decide +kernel
theorem dam36 : decode jdk_2101_method_15_code 36 = .ok (.aload_n 1, 1) := by decide +kernel
theorem dam37 : decode jdk_2101_method_15_code 37 = .ok (.getfield 11, 3) := by decide +kernel
theorem dam40 : decode jdk_2101_method_15_code 40 = .ok (.istore 5, 2) := by decide +kernel
theorem dam42 : decode jdk_2101_method_15_code 42 = .ok (.iload 4, 2) := by decide +kernel
theorem dam44 : decode jdk_2101_method_15_code 44 = .ok (.aload_n 0, 1) := by decide +kernel
theorem dam45 : decode jdk_2101_method_15_code 45 = .ok (.getfield 21, 3) := by decide +kernel
theorem dam48 : decode jdk_2101_method_15_code 48 = .ok (.aload_n 0, 1) := by decide +kernel
theorem dam49 : decode jdk_2101_method_15_code 49 = .ok (.getfield 11, 3) := by decide +kernel
theorem dam52 : decode jdk_2101_method_15_code 52 = .ok (.iadd, 1) := by decide +kernel
theorem dam53 : decode jdk_2101_method_15_code 53 = .ok (.if_icmp .ge 51, 3) := by decide +kernel
theorem dam56 : decode jdk_2101_method_15_code 56 = .ok (.aload_n 0, 1) := by decide +kernel
theorem dam57 : decode jdk_2101_method_15_code 57 = .ok (.getfield 17, 3) := by decide +kernel
theorem dam60 : decode jdk_2101_method_15_code 60 = .ok (.iload 4, 2) := by decide +kernel
theorem dam62 : decode jdk_2101_method_15_code 62 = .ok (.iaload, 1) := by decide +kernel
theorem dam63 : decode jdk_2101_method_15_code 63 = .ok (.ldc 88, 2) := by decide +kernel
theorem dam65 : decode jdk_2101_method_15_code 65 = .ok (.iadd, 1) := by decide +kernel
theorem dam66 : decode jdk_2101_method_15_code 66 = .ok (.istore 6, 2) := by decide +kernel
theorem dam68 : decode jdk_2101_method_15_code 68 = .ok (.aload_n 3, 1) := by decide +kernel
theorem dam69 : decode jdk_2101_method_15_code 69 = .ok (.iload 5, 2) := by decide +kernel
theorem dam71 : decode jdk_2101_method_15_code 71 = .ok (.iaload, 1) := by decide +kernel
theorem dam72 : decode jdk_2101_method_15_code 72 = .ok (.ldc 88, 2) := by decide +kernel
theorem dam74 : decode jdk_2101_method_15_code 74 = .ok (.iadd, 1) := by decide +kernel
theorem dam75 : decode jdk_2101_method_15_code 75 = .ok (.istore 7, 2) := by decide +kernel
theorem dam77 : decode jdk_2101_method_15_code 77 = .ok (.iload 6, 2) := by decide +kernel
theorem dam79 : decode jdk_2101_method_15_code 79 = .ok (.iload 7, 2) := by decide +kernel
theorem dam81 : decode jdk_2101_method_15_code 81 = .ok (.if_icmp .ge 5, 3) := by decide +kernel
theorem dam86 : decode jdk_2101_method_15_code 86 = .ok (.iload 6, 2) := by decide +kernel
theorem dam88 : decode jdk_2101_method_15_code 88 = .ok (.iload 7, 2) := by decide +kernel
theorem dam90 : decode jdk_2101_method_15_code 90 = .ok (.if_icmp .le 5, 3) := by decide +kernel
theorem dam93 : decode jdk_2101_method_15_code 93 = .ok (.iconst 1, 1) := by decide +kernel
theorem dam94 : decode jdk_2101_method_15_code 94 = .ok (.ireturn, 1) := by decide +kernel
theorem dam95 : decode jdk_2101_method_15_code 95 = .ok (.iinc 4 1, 3) := by decide +kernel
theorem dam98 : decode jdk_2101_method_15_code 98 = .ok (.iinc 5 1, 3) := by decide +kernel
theorem dam101 : decode jdk_2101_method_15_code 101 = .ok (.goto (-59), 3) := by decide +kernel
theorem dam104 : decode jdk_2101_method_15_code 104 = .ok (.iconst 0, 1) := by decide +kernel
theorem dam105 : decode jdk_2101_method_15_code 105 = .ok (.ireturn, 1) := by decide +kernel
theorem dan0 : decode jdk_2101_method_50_code 0 = .ok (.aload_n 0, 1) := by decide +kernel
theorem dan1 : decode jdk_2101_method_50_code 1 = .ok (.astore_n 2, 1) := by decide +kernel
theorem dan2 : decode jdk_2101_method_50_code 2 = .ok (.aload_n 2, 1) := by decide +kernel
theorem dan3 : decode jdk_2101_method_50_code 3 = .ok (.aload_n 1, 1) := by decide +kernel
theorem dan4 : decode jdk_2101_method_50_code 4 = .ok (.invokevirtual 142, 3) := by decide +kernel
theorem dan7 : decode jdk_2101_method_50_code 7 = .ok (.istore_n 3, 1) := by decide +kernel
theorem dan8 : decode jdk_2101_method_50_code 8 = .ok (.iload_n 3, 1) := by decide +kernel
theorem dan9 : decode jdk_2101_method_50_code 9 = .ok (.ifCond .ne 5, 3) := by decide +kernel
theorem dan14 : decode jdk_2101_method_50_code 14 = .ok (.iload_n 3, 1) := by decide +kernel
theorem dan15 : decode jdk_2101_method_50_code 15 = .ok (.ifCond .ge 11, 3) := by decide +kernel
theorem dan26 : decode jdk_2101_method_50_code 26 = .ok (.lconst 0, 1) := by decide +kernel
theorem dan27 : decode jdk_2101_method_50_code 27 = .ok (.lstore 4, 2) := by decide +kernel
theorem dan29 : decode jdk_2101_method_50_code 29 = .ok (.aload_n 2, 1) := by decide +kernel
theorem dan30 : decode jdk_2101_method_50_code 30 = .ok (.getfield 21, 3) := by decide +kernel
theorem dan33 : decode jdk_2101_method_50_code 33 = .ok (.istore 6, 2) := by decide +kernel
theorem dan35 : decode jdk_2101_method_50_code 35 = .ok (.aload_n 1, 1) := by decide +kernel
theorem dan36 : decode jdk_2101_method_50_code 36 = .ok (.getfield 21, 3) := by decide +kernel
theorem dan39 : decode jdk_2101_method_50_code 39 = .ok (.istore 7, 2) := by decide +kernel
theorem dan41 : decode jdk_2101_method_50_code 41 = .ok (.iload 7, 2) := by decide +kernel
theorem dan43 : decode jdk_2101_method_50_code 43 = .ok (.ifCond .le 70, 3) := by decide +kernel
theorem dan46 : decode jdk_2101_method_50_code 46 = .ok (.iinc 6 (-1), 3) := by decide +kernel
theorem dan49 : decode jdk_2101_method_50_code 49 = .ok (.iinc 7 (-1), 3) := by decide +kernel
theorem dan52 : decode jdk_2101_method_50_code 52 = .ok (.aload_n 2, 1) := by decide +kernel
theorem dan53 : decode jdk_2101_method_50_code 53 = .ok (.getfield 17, 3) := by decide +kernel
theorem dan56 : decode jdk_2101_method_50_code 56 = .ok (.aload_n 2, 1) := by decide +kernel
theorem dan57 : decode jdk_2101_method_50_code 57 = .ok (.getfield 11, 3) := by decide +kernel
theorem dan60 : decode jdk_2101_method_50_code 60 = .ok (.iload 6, 2) := by decide +kernel
theorem dan62 : decode jdk_2101_method_50_code 62 = .ok (.iadd, 1) := by decide +kernel
theorem dan63 : decode jdk_2101_method_50_code 63 = .ok (.iaload, 1) := by decide +kernel
theorem dan64 : decode jdk_2101_method_50_code 64 = .ok (.i2l, 1) := by decide +kernel
theorem dan65 : decode jdk_2101_method_50_code 65 = .ok (.ldc2_w 52, 3) := by decide +kernel
theorem dan68 : decode jdk_2101_method_50_code 68 = .ok (.land, 1) := by decide +kernel
theorem dan69 : decode jdk_2101_method_50_code 69 = .ok (.aload_n 1, 1) := by decide +kernel
theorem dan70 : decode jdk_2101_method_50_code 70 = .ok (.getfield 17, 3) := by decide +kernel
theorem dan73 : decode jdk_2101_method_50_code 73 = .ok (.aload_n 1, 1) := by decide +kernel
theorem dan74 : decode jdk_2101_method_50_code 74 = .ok (.getfield 11, 3) := by decide +kernel
theorem dan77 : decode jdk_2101_method_50_code 77 = .ok (.iload 7, 2) := by decide +kernel
theorem dan79 : decode jdk_2101_method_50_code 79 = .ok (.iadd, 1) := by decide +kernel
theorem dan80 : decode jdk_2101_method_50_code 80 = .ok (.iaload, 1) := by decide +kernel
theorem dan81 : decode jdk_2101_method_50_code 81 = .ok (.i2l, 1) := by decide +kernel
theorem dan82 : decode jdk_2101_method_50_code 82 = .ok (.ldc2_w 52, 3) := by decide +kernel
theorem dan85 : decode jdk_2101_method_50_code 85 = .ok (.land, 1) := by decide +kernel
theorem dan86 : decode jdk_2101_method_50_code 86 = .ok (.lsub, 1) := by decide +kernel
theorem dan87 : decode jdk_2101_method_50_code 87 = .ok (.lload 4, 2) := by decide +kernel
theorem dan89 : decode jdk_2101_method_50_code 89 = .ok (.bipush 32, 2) := by decide +kernel
theorem dan91 : decode jdk_2101_method_50_code 91 = .ok (.lshr, 1) := by decide +kernel
theorem dan92 : decode jdk_2101_method_50_code 92 = .ok (.ladd, 1) := by decide +kernel
theorem dan93 : decode jdk_2101_method_50_code 93 = .ok (.lstore 4, 2) := by decide +kernel
theorem dan95 : decode jdk_2101_method_50_code 95 = .ok (.aload_n 2, 1) := by decide +kernel
theorem dan96 : decode jdk_2101_method_50_code 96 = .ok (.getfield 17, 3) := by decide +kernel
theorem dan99 : decode jdk_2101_method_50_code 99 = .ok (.aload_n 2, 1) := by decide +kernel
theorem dan100 : decode jdk_2101_method_50_code 100 = .ok (.getfield 11, 3) := by decide +kernel
theorem dan103 : decode jdk_2101_method_50_code 103 = .ok (.iload 6, 2) := by decide +kernel
theorem dan105 : decode jdk_2101_method_50_code 105 = .ok (.iadd, 1) := by decide +kernel
theorem dan106 : decode jdk_2101_method_50_code 106 = .ok (.lload 4, 2) := by decide +kernel
theorem dan108 : decode jdk_2101_method_50_code 108 = .ok (.l2i, 1) := by decide +kernel
theorem dan109 : decode jdk_2101_method_50_code 109 = .ok (.iastore, 1) := by decide +kernel
theorem dan110 : decode jdk_2101_method_50_code 110 = .ok (.goto (-69), 3) := by decide +kernel
theorem dan113 : decode jdk_2101_method_50_code 113 = .ok (.lload 4, 2) := by decide +kernel
theorem dan115 : decode jdk_2101_method_50_code 115 = .ok (.lconst 0, 1) := by decide +kernel
theorem dan116 : decode jdk_2101_method_50_code 116 = .ok (.lcmp, 1) := by decide +kernel
theorem dan117 : decode jdk_2101_method_50_code 117 = .ok (.ifCond .ge 54, 3) := by decide +kernel
theorem dan171 : decode jdk_2101_method_50_code 171 = .ok (.aload_n 2, 1) := by decide +kernel
theorem dan172 : decode jdk_2101_method_50_code 172 = .ok (.invokevirtual 64, 3) := by decide +kernel
theorem dan175 : decode jdk_2101_method_50_code 175 = .ok (.iload_n 3, 1) := by decide +kernel
theorem dan176 : decode jdk_2101_method_50_code 176 = .ok (.ireturn, 1) := by decide +kernel
theorem dao0 : decode jdk_2101_method_74_code 0 = .ok (.iload_n 1, 1) := by decide +kernel
theorem dao1 : decode jdk_2101_method_74_code 1 = .ok (.ifCond .ne 5, 3) := by decide +kernel
theorem dao6 : decode jdk_2101_method_74_code 6 = .ok (.iload_n 0, 1) := by decide +kernel
theorem dao7 : decode jdk_2101_method_74_code 7 = .ok (.ifCond .ne 5, 3) := by decide +kernel
theorem dao12 : decode jdk_2101_method_74_code 12 = .ok (.iload_n 0, 1) := by decide +kernel
theorem dao13 : decode jdk_2101_method_74_code 13 = .ok (.invokestatic 89, 3) := by decide +kernel
theorem dao16 : decode jdk_2101_method_74_code 16 = .ok (.istore_n 2, 1) := by decide +kernel
theorem dao17 : decode jdk_2101_method_74_code 17 = .ok (.iload_n 1, 1) := by decide +kernel
theorem dao18 : decode jdk_2101_method_74_code 18 = .ok (.invokestatic 89, 3) := by decide +kernel
theorem dao21 : decode jdk_2101_method_74_code 21 = .ok (.istore_n 3, 1) := by decide +kernel
theorem dao22 : decode jdk_2101_method_74_code 22 = .ok (.iload_n 0, 1) := by decide +kernel
theorem dao23 : decode jdk_2101_method_74_code 23 = .ok (.iload_n 2, 1) := by decide +kernel
theorem dao24 : decode jdk_2101_method_74_code 24 = .ok (.iushr, 1) := by decide +kernel
theorem dao25 : decode jdk_2101_method_74_code 25 = .ok (.istore_n 0, 1) := by decide +kernel
theorem dao26 : decode jdk_2101_method_74_code 26 = .ok (.iload_n 1, 1) := by decide +kernel
theorem dao27 : decode jdk_2101_method_74_code 27 = .ok (.iload_n 3, 1) := by decide +kernel
theorem dao28 : decode jdk_2101_method_74_code 28 = .ok (.iushr, 1) := by decide +kernel
theorem dao29 : decode jdk_2101_method_74_code 29 = .ok (.istore_n 1, 1) := by decide +kernel
theorem dao30 : decode jdk_2101_method_74_code 30 = .ok (.iload_n 2, 1) := by decide +kernel
theorem dao31 : decode jdk_2101_method_74_code 31 = .ok (.iload_n 3, 1) := by decide +kernel
theorem dao32 : decode jdk_2101_method_74_code 32 = .ok (.if_icmp .ge 7, 3) := by decide +kernel
theorem dao39 : decode jdk_2101_method_74_code 39 = .ok (.iload_n 3, 1) := by decide +kernel
theorem dao40 : decode jdk_2101_method_74_code 40 = .ok (.istore 4, 2) := by decide +kernel
theorem dao42 : decode jdk_2101_method_74_code 42 = .ok (.iload_n 0, 1) := by decide +kernel
theorem dao43 : decode jdk_2101_method_74_code 43 = .ok (.iload_n 1, 1) := by decide +kernel
theorem dao44 : decode jdk_2101_method_74_code 44 = .ok (.if_icmp .eq 42, 3) := by decide +kernel
theorem dao47 : decode jdk_2101_method_74_code 47 = .ok (.iload_n 0, 1) := by decide +kernel
theorem dao48 : decode jdk_2101_method_74_code 48 = .ok (.ldc 88, 2) := by decide +kernel
theorem dao50 : decode jdk_2101_method_74_code 50 = .ok (.iadd, 1) := by decide +kernel
theorem dao51 : decode jdk_2101_method_74_code 51 = .ok (.iload_n 1, 1) := by decide +kernel
theorem dao52 : decode jdk_2101_method_74_code 52 = .ok (.ldc 88, 2) := by decide +kernel
theorem dao54 : decode jdk_2101_method_74_code 54 = .ok (.iadd, 1) := by decide +kernel
theorem dao55 : decode jdk_2101_method_74_code 55 = .ok (.if_icmp .le 17, 3) := by decide +kernel
theorem dao58 : decode jdk_2101_method_74_code 58 = .ok (.iload_n 0, 1) := by decide +kernel
theorem dao59 : decode jdk_2101_method_74_code 59 = .ok (.iload_n 1, 1) := by decide +kernel
theorem dao60 : decode jdk_2101_method_74_code 60 = .ok (.isub, 1) := by decide +kernel
theorem dao61 : decode jdk_2101_method_74_code 61 = .ok (.istore_n 0, 1) := by decide +kernel
theorem dao62 : decode jdk_2101_method_74_code 62 = .ok (.iload_n 0, 1) := by decide +kernel
theorem dao63 : decode jdk_2101_method_74_code 63 = .ok (.iload_n 0, 1) := by decide +kernel
theorem dao64 : decode jdk_2101_method_74_code 64 = .ok (.invokestatic 89, 3) := by decide +kernel
theorem dao67 : decode jdk_2101_method_74_code 67 = .ok (.iushr, 1) := by decide +kernel
theorem dao68 : decode jdk_2101_method_74_code 68 = .ok (.istore_n 0, 1) := by decide +kernel
theorem dao69 : decode jdk_2101_method_74_code 69 = .ok (.goto (-27), 3) := by decide +kernel
theorem dao86 : decode jdk_2101_method_74_code 86 = .ok (.iload_n 0, 1) := by decide +kernel
theorem dao87 : decode jdk_2101_method_74_code 87 = .ok (.iload 4, 2) := by decide +kernel
theorem dao89 : decode jdk_2101_method_74_code 89 = .ok (.ishl, 1) := by decide +kernel
theorem dao90 : decode jdk_2101_method_74_code 90 = .ok (.ireturn, 1) := by decide +kernel
theorem dap0 : decode jdk_2101_method_73_code 0 = .ok (.aload_n 0, 1) := by decide +kernel
theorem dap1 : decode jdk_2101_method_73_code 1 = .ok (.astore_n 2, 1) := by decide +kernel
theorem dap2 : decode jdk_2101_method_73_code 2 = .ok (.new 12, 3) := by decide +kernel
theorem dap5 : decode jdk_2101_method_73_code 5 = .ok (.dup, 1) := by decide +kernel
theorem dap6 : decode jdk_2101_method_73_code 6 = .ok (.invokespecial 177, 3) := by decide +kernel
theorem dap9 : decode jdk_2101_method_73_code 9 = .ok (.astore_n 3, 1) := by decide +kernel
theorem dap10 : decode jdk_2101_method_73_code 10 = .ok (.aload_n 2, 1) := by decide +kernel
theorem dap11 : decode jdk_2101_method_73_code 11 = .ok (.invokevirtual 184, 3) := by decide +kernel
theorem dap14 : decode jdk_2101_method_73_code 14 = .ok (.istore 4, 2) := by decide +kernel
theorem dap16 : decode jdk_2101_method_73_code 16 = .ok (.aload_n 1, 1) := by decide +kernel
theorem dap17 : decode jdk_2101_method_73_code 17 = .ok (.invokevirtual 184, 3) := by decide +kernel
theorem dap20 : decode jdk_2101_method_73_code 20 = .ok (.istore 5, 2) := by decide +kernel
theorem dap22 : decode jdk_2101_method_73_code 22 = .ok (.iload 4, 2) := by decide +kernel
theorem dap24 : decode jdk_2101_method_73_code 24 = .ok (.iload 5, 2) := by decide +kernel
theorem dap26 : decode jdk_2101_method_73_code 26 = .ok (.if_icmp .ge 8, 3) := by decide +kernel
theorem dap34 : decode jdk_2101_method_73_code 34 = .ok (.iload 5, 2) := by decide +kernel
theorem dap36 : decode jdk_2101_method_73_code 36 = .ok (.istore 6, 2) := by decide +kernel
theorem dap38 : decode jdk_2101_method_73_code 38 = .ok (.iload 6, 2) := by decide +kernel
theorem dap40 : decode jdk_2101_method_73_code 40 = .ok (.ifCond .eq 15, 3) := by decide +kernel
theorem dap55 : decode jdk_2101_method_73_code 55 = .ok (.iload 6, 2) := by decide +kernel
theorem dap57 : decode jdk_2101_method_73_code 57 = .ok (.iload 4, 2) := by decide +kernel
theorem dap59 : decode jdk_2101_method_73_code 59 = .ok (.if_icmp .ne 7, 3) := by decide +kernel
theorem dap62 : decode jdk_2101_method_73_code 62 = .ok (.iconst 1, 1) := by decide +kernel
theorem dap63 : decode jdk_2101_method_73_code 63 = .ok (.goto 4, 3) := by decide +kernel
theorem dap66 : decode jdk_2101_method_73_code 66 = .ok (.iconst 0, 1) := by decide +kernel
theorem dap67 : decode jdk_2101_method_73_code 67 = .ok (.istore 7, 2) := by decide +kernel
theorem dap69 : decode jdk_2101_method_73_code 69 = .ok (.iload 7, 2) := by decide +kernel
theorem dap71 : decode jdk_2101_method_73_code 71 = .ok (.ifCond .eq 7, 3) := by decide +kernel
theorem dap74 : decode jdk_2101_method_73_code 74 = .ok (.aload_n 1, 1) := by decide +kernel
theorem dap75 : decode jdk_2101_method_73_code 75 = .ok (.goto 4, 3) := by decide +kernel
theorem dap78 : decode jdk_2101_method_73_code 78 = .ok (.aload_n 2, 1) := by decide +kernel
theorem dap79 : decode jdk_2101_method_73_code 79 = .ok (.astore 8, 2) := by decide +kernel
theorem dap81 : decode jdk_2101_method_73_code 81 = .ok (.iload 7, 2) := by decide +kernel
theorem dap83 : decode jdk_2101_method_73_code 83 = .ok (.ifCond .eq 7, 3) := by decide +kernel
theorem dap86 : decode jdk_2101_method_73_code 86 = .ok (.iconst (-1), 1) := by decide +kernel
theorem dap87 : decode jdk_2101_method_73_code 87 = .ok (.goto 4, 3) := by decide +kernel
theorem dap90 : decode jdk_2101_method_73_code 90 = .ok (.iconst 1, 1) := by decide +kernel
theorem dap91 : decode jdk_2101_method_73_code 91 = .ok (.istore 9, 2) := by decide +kernel
theorem dap93 : decode jdk_2101_method_73_code 93 = .ok (.aload 8, 2) := by decide +kernel
theorem dap95 : decode jdk_2101_method_73_code 95 = .ok (.invokevirtual 184, 3) := by decide +kernel
theorem dap98 : decode jdk_2101_method_73_code 98 = .ok (.dup, 1) := by decide +kernel
theorem dap99 : decode jdk_2101_method_73_code 99 = .ok (.istore 10, 2) := by decide +kernel
theorem dap101 : decode jdk_2101_method_73_code 101 = .ok (.ifCond .lt 131, 3) := by decide +kernel
theorem dap104 : decode jdk_2101_method_73_code 104 = .ok (.aload 8, 2) := by decide +kernel
theorem dap106 : decode jdk_2101_method_73_code 106 = .ok (.iload 10, 2) := by decide +kernel
theorem dap108 : decode jdk_2101_method_73_code 108 = .ok (.invokevirtual 108, 3) := by decide +kernel
theorem dap111 : decode jdk_2101_method_73_code 111 = .ok (.iload 9, 2) := by decide +kernel
theorem dap113 : decode jdk_2101_method_73_code 113 = .ok (.ifCond .le 9, 3) := by decide +kernel
theorem dap116 : decode jdk_2101_method_73_code 116 = .ok (.aload 8, 2) := by decide +kernel
theorem dap118 : decode jdk_2101_method_73_code 118 = .ok (.astore_n 2, 1) := by decide +kernel
theorem dap119 : decode jdk_2101_method_73_code 119 = .ok (.goto 6, 3) := by decide +kernel
theorem dap122 : decode jdk_2101_method_73_code 122 = .ok (.aload 8, 2) := by decide +kernel
theorem dap124 : decode jdk_2101_method_73_code 124 = .ok (.astore_n 1, 1) := by decide +kernel
theorem dap125 : decode jdk_2101_method_73_code 125 = .ok (.aload_n 2, 1) := by decide +kernel
theorem dap126 : decode jdk_2101_method_73_code 126 = .ok (.getfield 21, 3) := by decide +kernel
theorem dap129 : decode jdk_2101_method_73_code 129 = .ok (.iconst 2, 1) := by decide +kernel
theorem dap130 : decode jdk_2101_method_73_code 130 = .ok (.if_icmp .ge 73, 3) := by decide +kernel
theorem dap133 : decode jdk_2101_method_73_code 133 = .ok (.aload_n 1, 1) := by decide +kernel
theorem dap134 : decode jdk_2101_method_73_code 134 = .ok (.getfield 21, 3) := by decide +kernel
theorem dap137 : decode jdk_2101_method_73_code 137 = .ok (.iconst 2, 1) := by decide +kernel
theorem dap138 : decode jdk_2101_method_73_code 138 = .ok (.if_icmp .ge 65, 3) := by decide +kernel
theorem dap141 : decode jdk_2101_method_73_code 141 = .ok (.aload_n 2, 1) := by decide +kernel
theorem dap142 : decode jdk_2101_method_73_code 142 = .ok (.getfield 17, 3) := by decide +kernel
theorem dap145 : decode jdk_2101_method_73_code 145 = .ok (.aload_n 2, 1) := by decide +kernel
theorem dap146 : decode jdk_2101_method_73_code 146 = .ok (.getfield 11, 3) := by decide +kernel
theorem dap149 : decode jdk_2101_method_73_code 149 = .ok (.iaload, 1) := by decide +kernel
theorem dap150 : decode jdk_2101_method_73_code 150 = .ok (.istore 11, 2) := by decide +kernel
theorem dap152 : decode jdk_2101_method_73_code 152 = .ok (.aload_n 1, 1) := by decide +kernel
theorem dap153 : decode jdk_2101_method_73_code 153 = .ok (.getfield 17, 3) := by decide +kernel
theorem dap156 : decode jdk_2101_method_73_code 156 = .ok (.aload_n 1, 1) := by decide +kernel
theorem dap157 : decode jdk_2101_method_73_code 157 = .ok (.getfield 11, 3) := by decide +kernel
theorem dap160 : decode jdk_2101_method_73_code 160 = .ok (.iaload, 1) := by decide +kernel
theorem dap161 : decode jdk_2101_method_73_code 161 = .ok (.istore 12, 2) := by decide +kernel
theorem dap163 : decode jdk_2101_method_73_code 163 = .ok (.iload 11, 2) := by decide +kernel
theorem dap165 : decode jdk_2101_method_73_code 165 = .ok (.iload 12, 2) := by decide +kernel
theorem dap167 : decode jdk_2101_method_73_code 167 = .ok (.invokestatic 338, 3) := by decide +kernel
theorem dap170 : decode jdk_2101_method_73_code 170 = .ok (.istore 11, 2) := by decide +kernel
theorem dap172 : decode jdk_2101_method_73_code 172 = .ok (.aload_n 3, 1) := by decide +kernel
theorem dap173 : decode jdk_2101_method_73_code 173 = .ok (.getfield 17, 3) := by decide +kernel
theorem dap176 : decode jdk_2101_method_73_code 176 = .ok (.iconst 0, 1) := by decide +kernel
theorem dap177 : decode jdk_2101_method_73_code 177 = .ok (.iload 11, 2) := by decide +kernel
theorem dap179 : decode jdk_2101_method_73_code 179 = .ok (.iastore, 1) := by decide +kernel
theorem dap180 : decode jdk_2101_method_73_code 180 = .ok (.aload_n 3, 1) := by decide +kernel
theorem dap181 : decode jdk_2101_method_73_code 181 = .ok (.iconst 1, 1) := by decide +kernel
theorem dap182 : decode jdk_2101_method_73_code 182 = .ok (.putfield 21, 3) := by decide +kernel
theorem dap185 : decode jdk_2101_method_73_code 185 = .ok (.aload_n 3, 1) := by decide +kernel
theorem dap186 : decode jdk_2101_method_73_code 186 = .ok (.iconst 0, 1) := by decide +kernel
theorem dap187 : decode jdk_2101_method_73_code 187 = .ok (.putfield 11, 3) := by decide +kernel
theorem dap190 : decode jdk_2101_method_73_code 190 = .ok (.iload 6, 2) := by decide +kernel
theorem dap192 : decode jdk_2101_method_73_code 192 = .ok (.ifCond .le 9, 3) := by decide +kernel
theorem dap201 : decode jdk_2101_method_73_code 201 = .ok (.aload_n 3, 1) := by decide +kernel
theorem dap202 : decode jdk_2101_method_73_code 202 = .ok (.areturn, 1) := by decide +kernel
theorem dap203 : decode jdk_2101_method_73_code 203 = .ok (.aload_n 2, 1) := by decide +kernel
theorem dap204 : decode jdk_2101_method_73_code 204 = .ok (.aload_n 1, 1) := by decide +kernel
theorem dap205 : decode jdk_2101_method_73_code 205 = .ok (.invokevirtual 341, 3) := by decide +kernel
theorem dap208 : decode jdk_2101_method_73_code 208 = .ok (.dup, 1) := by decide +kernel
theorem dap209 : decode jdk_2101_method_73_code 209 = .ok (.istore 9, 2) := by decide +kernel
theorem dap211 : decode jdk_2101_method_73_code 211 = .ok (.ifCond .ne 6, 3) := by decide +kernel
theorem dap217 : decode jdk_2101_method_73_code 217 = .ok (.iload 9, 2) := by decide +kernel
theorem dap219 : decode jdk_2101_method_73_code 219 = .ok (.ifCond .lt 7, 3) := by decide +kernel
theorem dap222 : decode jdk_2101_method_73_code 222 = .ok (.aload_n 2, 1) := by decide +kernel
theorem dap223 : decode jdk_2101_method_73_code 223 = .ok (.goto 4, 3) := by decide +kernel
theorem dap227 : decode jdk_2101_method_73_code 227 = .ok (.astore 8, 2) := by decide +kernel
theorem dap229 : decode jdk_2101_method_73_code 229 = .ok (.goto (-136), 3) := by decide +kernel
theorem daq0 : decode jdk_29_method_59_code 0 = .ok (.iload_n 0, 1) := by decide +kernel
theorem daq1 : decode jdk_29_method_59_code 1 = .ok (.ifCond .ge 8, 3) := by decide +kernel
theorem daq9 : decode jdk_29_method_59_code 9 = .ok (.iload_n 0, 1) := by decide +kernel
theorem daq10 : decode jdk_29_method_59_code 10 = .ok (.ireturn, 1) := by decide +kernel
theorem dar0 : decode jdk_2101_method_72_code 0 = .ok (.aload_n 0, 1) := by decide +kernel
theorem dar1 : decode jdk_2101_method_72_code 1 = .ok (.astore_n 2, 1) := by decide +kernel
theorem dar2 : decode jdk_2101_method_72_code 2 = .ok (.new 12, 3) := by decide +kernel
theorem dar5 : decode jdk_2101_method_72_code 5 = .ok (.dup, 1) := by decide +kernel
theorem dar6 : decode jdk_2101_method_72_code 6 = .ok (.invokespecial 177, 3) := by decide +kernel
theorem dar9 : decode jdk_2101_method_72_code 9 = .ok (.astore_n 3, 1) := by decide +kernel
theorem dar10 : decode jdk_2101_method_72_code 10 = .ok (.aload_n 1, 1) := by decide +kernel
theorem dar11 : decode jdk_2101_method_72_code 11 = .ok (.getfield 21, 3) := by decide +kernel
theorem dar14 : decode jdk_2101_method_72_code 14 = .ok (.ifCond .eq 41, 3) := by decide +kernel
theorem dar17 : decode jdk_2101_method_72_code 17 = .ok (.aload_n 2, 1) := by decide +kernel
theorem dar18 : decode jdk_2101_method_72_code 18 = .ok (.getfield 21, 3) := by decide +kernel
theorem dar21 : decode jdk_2101_method_72_code 21 = .ok (.aload_n 1, 1) := by decide +kernel
theorem dar22 : decode jdk_2101_method_72_code 22 = .ok (.getfield 21, 3) := by decide +kernel
theorem dar25 : decode jdk_2101_method_72_code 25 = .ok (.isub, 1) := by decide +kernel
theorem dar26 : decode jdk_2101_method_72_code 26 = .ok (.invokestatic 329, 3) := by decide +kernel
theorem dar29 : decode jdk_2101_method_72_code 29 = .ok (.iconst 2, 1) := by decide +kernel
theorem dar30 : decode jdk_2101_method_72_code 30 = .ok (.if_icmp .ge 9, 3) := by decide +kernel
theorem dar33 : decode jdk_2101_method_72_code 33 = .ok (.aload_n 2, 1) := by decide +kernel
theorem dar34 : decode jdk_2101_method_72_code 34 = .ok (.aload_n 1, 1) := by decide +kernel
theorem dar35 : decode jdk_2101_method_72_code 35 = .ok (.invokevirtual 332, 3) := by decide +kernel
theorem dar38 : decode jdk_2101_method_72_code 38 = .ok (.areturn, 1) := by decide +kernel
theorem das0 : decode jdk_2101_method_7_code 0 = .ok (.aload_n 0, 1) := by decide +kernel
theorem das1 : decode jdk_2101_method_7_code 1 = .ok (.getfield 11, 3) := by decide +kernel
theorem das4 : decode jdk_2101_method_7_code 4 = .ok (.ifCond .gt 15, 3) := by decide +kernel
theorem das7 : decode jdk_2101_method_7_code 7 = .ok (.aload_n 0, 1) := by decide +kernel
theorem das8 : decode jdk_2101_method_7_code 8 = .ok (.getfield 17, 3) := by decide +kernel
theorem das11 : decode jdk_2101_method_7_code 11 = .ok (.arraylength, 1) := by decide +kernel
theorem das12 : decode jdk_2101_method_7_code 12 = .ok (.aload_n 0, 1) := by decide +kernel
theorem das13 : decode jdk_2101_method_7_code 13 = .ok (.getfield 21, 3) := by decide +kernel
theorem das16 : decode jdk_2101_method_7_code 16 = .ok (.if_icmp .eq 48, 3) := by decide +kernel
theorem das64 : decode jdk_2101_method_7_code 64 = .ok (.aload_n 0, 1) := by decide +kernel
theorem das65 : decode jdk_2101_method_7_code 65 = .ok (.getfield 17, 3) := by decide +kernel
theorem das68 : decode jdk_2101_method_7_code 68 = .ok (.areturn, 1) := by decide +kernel
theorem dat0 : decode jdk_2101_method_9_code 0 = .ok (.aload_n 0, 1) := by decide +kernel
theorem dat1 : decode jdk_2101_method_9_code 1 = .ok (.getfield 21, 3) := by decide +kernel
theorem dat4 : decode jdk_2101_method_9_code 4 = .ok (.ifCond .eq 7, 3) := by decide +kernel
theorem dat7 : decode jdk_2101_method_9_code 7 = .ok (.iload_n 1, 1) := by decide +kernel
theorem dat8 : decode jdk_2101_method_9_code 8 = .ok (.ifCond .ne 7, 3) := by decide +kernel
theorem dat11 : decode jdk_2101_method_9_code 11 = .ok (.getstatic 54, 3) := by decide +kernel
theorem dat14 : decode jdk_2101_method_9_code 14 = .ok (.areturn, 1) := by decide +kernel
theorem dat15 : decode jdk_2101_method_9_code 15 = .ok (.new 1, 3) := by decide +kernel
theorem dat18 : decode jdk_2101_method_9_code 18 = .ok (.dup, 1) := by decide +kernel
theorem dat19 : decode jdk_2101_method_9_code 19 = .ok (.aload_n 0, 1) := by decide +kernel
theorem dat20 : decode jdk_2101_method_9_code 20 = .ok (.invokevirtual 58, 3) := by decide +kernel
theorem dat23 : decode jdk_2101_method_9_code 23 = .ok (.iload_n 1, 1) := by decide +kernel
theorem dat24 : decode jdk_2101_method_9_code 24 = .ok (.invokespecial 62, 3) := by decide +kernel
theorem dat27 : decode jdk_2101_method_9_code 27 = .ok (.areturn, 1) := by decide +kernel
theorem dau0 : decode jdk_2097_method_79_code 0 = .ok (.aload_n 0, 1) := by decide +kernel
theorem dau1 : decode jdk_2097_method_79_code 1 = .ok (.getfield 32, 3) := by decide +kernel
theorem dau4 : decode jdk_2097_method_79_code 4 = .ok (.ifCond .lt 7, 3) := by decide +kernel
theorem dau7 : decode jdk_2097_method_79_code 7 = .ok (.aload_n 0, 1) := by decide +kernel
theorem dau8 : decode jdk_2097_method_79_code 8 = .ok (.goto 7, 3) := by decide +kernel
theorem dau15 : decode jdk_2097_method_79_code 15 = .ok (.areturn, 1) := by decide +kernel
theorem dav0 : decode jdk_2097_method_73_code 0 = .ok (.aload_n 1, 1) := by decide +kernel
theorem dav1 : decode jdk_2097_method_73_code 1 = .ok (.getfield 32, 3) := by decide +kernel
theorem dav4 : decode jdk_2097_method_73_code 4 = .ok (.ifCond .ne 8, 3) := by decide +kernel
theorem dav12 : decode jdk_2097_method_73_code 12 = .ok (.aload_n 0, 1) := by decide +kernel
theorem dav13 : decode jdk_2097_method_73_code 13 = .ok (.getfield 32, 3) := by decide +kernel
theorem dav16 : decode jdk_2097_method_73_code 16 = .ok (.ifCond .ne 8, 3) := by decide +kernel
theorem dav19 : decode jdk_2097_method_73_code 19 = .ok (.aload_n 1, 1) := by decide +kernel
theorem dav20 : decode jdk_2097_method_73_code 20 = .ok (.invokevirtual 485, 3) := by decide +kernel
theorem dav23 : decode jdk_2097_method_73_code 23 = .ok (.areturn, 1) := by decide +kernel
theorem dav24 : decode jdk_2097_method_73_code 24 = .ok (.new 541, 3) := by decide +kernel
theorem dav27 : decode jdk_2097_method_73_code 27 = .ok (.dup, 1) := by decide +kernel
theorem dav28 : decode jdk_2097_method_73_code 28 = .ok (.aload_n 0, 1) := by decide +kernel
theorem dav29 : decode jdk_2097_method_73_code 29 = .ok (.invokespecial 567, 3) := by decide +kernel
theorem dav32 : decode jdk_2097_method_73_code 32 = .ok (.astore_n 2, 1) := by decide +kernel
theorem dav33 : decode jdk_2097_method_73_code 33 = .ok (.new 541, 3) := by decide +kernel
theorem dav36 : decode jdk_2097_method_73_code 36 = .ok (.dup, 1) := by decide +kernel
theorem dav37 : decode jdk_2097_method_73_code 37 = .ok (.aload_n 1, 1) := by decide +kernel
theorem dav38 : decode jdk_2097_method_73_code 38 = .ok (.invokespecial 567, 3) := by decide +kernel
theorem dav41 : decode jdk_2097_method_73_code 41 = .ok (.astore_n 3, 1) := by decide +kernel
theorem dav42 : decode jdk_2097_method_73_code 42 = .ok (.aload_n 2, 1) := by decide +kernel
theorem dav43 : decode jdk_2097_method_73_code 43 = .ok (.aload_n 3, 1) := by decide +kernel
theorem dav44 : decode jdk_2097_method_73_code 44 = .ok (.invokevirtual 598, 3) := by decide +kernel
theorem dav47 : decode jdk_2097_method_73_code 47 = .ok (.astore 4, 2) := by decide +kernel
theorem dav49 : decode jdk_2097_method_73_code 49 = .ok (.aload 4, 2) := by decide +kernel
theorem dav51 : decode jdk_2097_method_73_code 51 = .ok (.iconst 1, 1) := by decide +kernel
theorem dav52 : decode jdk_2097_method_73_code 52 = .ok (.invokevirtual 548, 3) := by decide +kernel
theorem dav55 : decode jdk_2097_method_73_code 55 = .ok (.areturn, 1) := by decide +kernel
theorem daw0 : decode jdk_2101_method_13_code 0 = .ok (.aload_n 0, 1) := by decide +kernel
theorem daw1 : decode jdk_2101_method_13_code 1 = .ok (.aload_n 0, 1) := by decide +kernel
theorem daw2 : decode jdk_2101_method_13_code 2 = .ok (.iconst 0, 1) := by decide +kernel
theorem daw3 : decode jdk_2101_method_13_code 3 = .ok (.dup_x1, 1) := by decide +kernel
theorem daw4 : decode jdk_2101_method_13_code 4 = .ok (.putfield 21, 3) := by decide +kernel
theorem daw7 : decode jdk_2101_method_13_code 7 = .ok (.putfield 11, 3) := by decide +kernel
theorem daw10 : decode jdk_2101_method_13_code 10 = .ok (.iconst 0, 1) := by decide +kernel
theorem daw11 : decode jdk_2101_method_13_code 11 = .ok (.istore_n 1, 1) := by decide +kernel
theorem daw12 : decode jdk_2101_method_13_code 12 = .ok (.aload_n 0, 1) := by decide +kernel
theorem daw13 : decode jdk_2101_method_13_code 13 = .ok (.getfield 17, 3) := by decide +kernel
theorem daw16 : decode jdk_2101_method_13_code 16 = .ok (.arraylength, 1) := by decide +kernel
theorem daw17 : decode jdk_2101_method_13_code 17 = .ok (.istore_n 2, 1) := by decide +kernel
theorem daw18 : decode jdk_2101_method_13_code 18 = .ok (.iload_n 1, 1) := by decide +kernel
theorem daw19 : decode jdk_2101_method_13_code 19 = .ok (.iload_n 2, 1) := by decide +kernel
theorem daw20 : decode jdk_2101_method_13_code 20 = .ok (.if_icmp .ge 16, 3) := by decide +kernel
theorem daw23 : decode jdk_2101_method_13_code 23 = .ok (.aload_n 0, 1) := by decide +kernel
theorem daw24 : decode jdk_2101_method_13_code 24 = .ok (.getfield 17, 3) := by decide +kernel
theorem daw27 : decode jdk_2101_method_13_code 27 = .ok (.iload_n 1, 1) := by decide +kernel
theorem daw28 : decode jdk_2101_method_13_code 28 = .ok (.iconst 0, 1) := by decide +kernel
theorem daw29 : decode jdk_2101_method_13_code 29 = .ok (.iastore, 1) := by decide +kernel
theorem daw30 : decode jdk_2101_method_13_code 30 = .ok (.iinc 1 1, 3) := by decide +kernel
theorem daw33 : decode jdk_2101_method_13_code 33 = .ok (.goto (-15), 3) := by decide +kernel
theorem daw36 : decode jdk_2101_method_13_code 36 = .ok (.return_, 1) := by decide +kernel
theorem dax0 : decode jdk_2101_method_53_code 0 = .ok (.iload_n 1, 1) := by decide +kernel
theorem dax1 : decode jdk_2101_method_53_code 1 = .ok (.i2l, 1) := by decide +kernel
theorem dax2 : decode jdk_2101_method_53_code 2 = .ok (.ldc2_w 52, 3) := by decide +kernel
theorem dax5 : decode jdk_2101_method_53_code 5 = .ok (.land, 1) := by decide +kernel
theorem dax6 : decode jdk_2101_method_53_code 6 = .ok (.lstore_n 3, 1) := by decide +kernel
theorem dax7 : decode jdk_2101_method_53_code 7 = .ok (.aload_n 0, 1) := by decide +kernel
theorem dax8 : decode jdk_2101_method_53_code 8 = .ok (.getfield 21, 3) := by decide +kernel
theorem dax11 : decode jdk_2101_method_53_code 11 = .ok (.iconst 1, 1) := by decide +kernel
theorem dax12 : decode jdk_2101_method_53_code 12 = .ok (.if_icmp .ne 67, 3) := by decide +kernel
theorem dax15 : decode jdk_2101_method_53_code 15 = .ok (.aload_n 0, 1) := by decide +kernel
theorem dax16 : decode jdk_2101_method_53_code 16 = .ok (.getfield 17, 3) := by decide +kernel
theorem dax19 : decode jdk_2101_method_53_code 19 = .ok (.aload_n 0, 1) := by decide +kernel
theorem dax20 : decode jdk_2101_method_53_code 20 = .ok (.getfield 11, 3) := by decide +kernel
theorem dax23 : decode jdk_2101_method_53_code 23 = .ok (.iaload, 1) := by decide +kernel
theorem dax24 : decode jdk_2101_method_53_code 24 = .ok (.i2l, 1) := by decide +kernel
theorem dax25 : decode jdk_2101_method_53_code 25 = .ok (.ldc2_w 52, 3) := by decide +kernel
theorem dax28 : decode jdk_2101_method_53_code 28 = .ok (.land, 1) := by decide +kernel
theorem dax29 : decode jdk_2101_method_53_code 29 = .ok (.lstore 5, 2) := by decide +kernel
theorem dax31 : decode jdk_2101_method_53_code 31 = .ok (.lload 5, 2) := by decide +kernel
theorem dax33 : decode jdk_2101_method_53_code 33 = .ok (.lload_n 3, 1) := by decide +kernel
theorem dax34 : decode jdk_2101_method_53_code 34 = .ok (.ldiv, 1) := by decide +kernel
theorem dax35 : decode jdk_2101_method_53_code 35 = .ok (.l2i, 1) := by decide +kernel
theorem dax36 : decode jdk_2101_method_53_code 36 = .ok (.istore 7, 2) := by decide +kernel
theorem dax38 : decode jdk_2101_method_53_code 38 = .ok (.lload 5, 2) := by decide +kernel
theorem dax40 : decode jdk_2101_method_53_code 40 = .ok (.iload 7, 2) := by decide +kernel
theorem dax42 : decode jdk_2101_method_53_code 42 = .ok (.i2l, 1) := by decide +kernel
theorem dax43 : decode jdk_2101_method_53_code 43 = .ok (.lload_n 3, 1) := by decide +kernel
theorem dax44 : decode jdk_2101_method_53_code 44 = .ok (.lmul, 1) := by decide +kernel
theorem dax45 : decode jdk_2101_method_53_code 45 = .ok (.lsub, 1) := by decide +kernel
theorem dax46 : decode jdk_2101_method_53_code 46 = .ok (.l2i, 1) := by decide +kernel
theorem dax47 : decode jdk_2101_method_53_code 47 = .ok (.istore 8, 2) := by decide +kernel
theorem dax49 : decode jdk_2101_method_53_code 49 = .ok (.aload_n 2, 1) := by decide +kernel
theorem dax50 : decode jdk_2101_method_53_code 50 = .ok (.getfield 17, 3) := by decide +kernel
theorem dax53 : decode jdk_2101_method_53_code 53 = .ok (.iconst 0, 1) := by decide +kernel
theorem dax54 : decode jdk_2101_method_53_code 54 = .ok (.iload 7, 2) := by decide +kernel
theorem dax56 : decode jdk_2101_method_53_code 56 = .ok (.iastore, 1) := by decide +kernel
theorem dax57 : decode jdk_2101_method_53_code 57 = .ok (.aload_n 2, 1) := by decide +kernel
theorem dax58 : decode jdk_2101_method_53_code 58 = .ok (.iload 7, 2) := by decide +kernel
theorem dax60 : decode jdk_2101_method_53_code 60 = .ok (.ifCond .ne 7, 3) := by decide +kernel
theorem dax67 : decode jdk_2101_method_53_code 67 = .ok (.iconst 1, 1) := by decide +kernel
theorem dax68 : decode jdk_2101_method_53_code 68 = .ok (.putfield 21, 3) := by decide +kernel
theorem dax71 : decode jdk_2101_method_53_code 71 = .ok (.aload_n 2, 1) := by decide +kernel
theorem dax72 : decode jdk_2101_method_53_code 72 = .ok (.iconst 0, 1) := by decide +kernel
theorem dax73 : decode jdk_2101_method_53_code 73 = .ok (.putfield 11, 3) := by decide +kernel
theorem dax76 : decode jdk_2101_method_53_code 76 = .ok (.iload 8, 2) := by decide +kernel
theorem dax78 : decode jdk_2101_method_53_code 78 = .ok (.ireturn, 1) := by decide +kernel
theorem dax79 : decode jdk_2101_method_53_code 79 = .ok (.aload_n 2, 1) := by decide +kernel
theorem dax80 : decode jdk_2101_method_53_code 80 = .ok (.getfield 17, 3) := by decide +kernel
theorem dax83 : decode jdk_2101_method_53_code 83 = .ok (.arraylength, 1) := by decide +kernel
theorem dax84 : decode jdk_2101_method_53_code 84 = .ok (.aload_n 0, 1) := by decide +kernel
theorem dax85 : decode jdk_2101_method_53_code 85 = .ok (.getfield 21, 3) := by decide +kernel
theorem dax88 : decode jdk_2101_method_53_code 88 = .ok (.if_icmp .ge 13, 3) := by decide +kernel
theorem dax91 : decode jdk_2101_method_53_code 91 = .ok (.aload_n 2, 1) := by decide +kernel
theorem dax92 : decode jdk_2101_method_53_code 92 = .ok (.aload_n 0, 1) := by decide +kernel
theorem dax93 : decode jdk_2101_method_53_code 93 = .ok (.getfield 21, 3) := by decide +kernel
theorem dax96 : decode jdk_2101_method_53_code 96 = .ok (.newarray .int, 2) := by decide +kernel
theorem dax98 : decode jdk_2101_method_53_code 98 = .ok (.putfield 17, 3) := by decide +kernel
theorem dax101 : decode jdk_2101_method_53_code 101 = .ok (.aload_n 2, 1) := by decide +kernel
theorem dax102 : decode jdk_2101_method_53_code 102 = .ok (.iconst 0, 1) := by decide +kernel
theorem dax103 : decode jdk_2101_method_53_code 103 = .ok (.putfield 11, 3) := by decide +kernel
theorem dax106 : decode jdk_2101_method_53_code 106 = .ok (.aload_n 2, 1) := by decide +kernel
theorem dax107 : decode jdk_2101_method_53_code 107 = .ok (.aload_n 0, 1) := by decide +kernel
theorem dax108 : decode jdk_2101_method_53_code 108 = .ok (.getfield 21, 3) := by decide +kernel
theorem dax111 : decode jdk_2101_method_53_code 111 = .ok (.putfield 21, 3) := by decide +kernel
theorem dax114 : decode jdk_2101_method_53_code 114 = .ok (.iload_n 1, 1) := by decide +kernel
theorem dax115 : decode jdk_2101_method_53_code 115 = .ok (.invokestatic 152, 3) := by decide +kernel
theorem dax118 : decode jdk_2101_method_53_code 118 = .ok (.istore 5, 2) := by decide +kernel
theorem dax120 : decode jdk_2101_method_53_code 120 = .ok (.aload_n 0, 1) := by decide +kernel
theorem dax121 : decode jdk_2101_method_53_code 121 = .ok (.getfield 17, 3) := by decide +kernel
theorem dax124 : decode jdk_2101_method_53_code 124 = .ok (.aload_n 0, 1) := by decide +kernel
theorem dax125 : decode jdk_2101_method_53_code 125 = .ok (.getfield 11, 3) := by decide +kernel
theorem dax128 : decode jdk_2101_method_53_code 128 = .ok (.iaload, 1) := by decide +kernel
theorem dax129 : decode jdk_2101_method_53_code 129 = .ok (.istore 6, 2) := by decide +kernel
theorem dax131 : decode jdk_2101_method_53_code 131 = .ok (.iload 6, 2) := by decide +kernel
theorem dax133 : decode jdk_2101_method_53_code 133 = .ok (.i2l, 1) := by decide +kernel
theorem dax134 : decode jdk_2101_method_53_code 134 = .ok (.ldc2_w 52, 3) := by decide +kernel
theorem dax137 : decode jdk_2101_method_53_code 137 = .ok (.land, 1) := by decide +kernel
theorem dax138 : decode jdk_2101_method_53_code 138 = .ok (.lstore 7, 2) := by decide +kernel
theorem dax140 : decode jdk_2101_method_53_code 140 = .ok (.lload 7, 2) := by decide +kernel
theorem dax142 : decode jdk_2101_method_53_code 142 = .ok (.lload_n 3, 1) := by decide +kernel
theorem dax143 : decode jdk_2101_method_53_code 143 = .ok (.lcmp, 1) := by decide +kernel
theorem dax144 : decode jdk_2101_method_53_code 144 = .ok (.ifCond .ge 13, 3) := by decide +kernel
theorem dax157 : decode jdk_2101_method_53_code 157 = .ok (.aload_n 2, 1) := by decide +kernel
theorem dax158 : decode jdk_2101_method_53_code 158 = .ok (.getfield 17, 3) := by decide +kernel
theorem dax161 : decode jdk_2101_method_53_code 161 = .ok (.iconst 0, 1) := by decide +kernel
theorem dax162 : decode jdk_2101_method_53_code 162 = .ok (.lload 7, 2) := by decide +kernel
theorem dax164 : decode jdk_2101_method_53_code 164 = .ok (.lload_n 3, 1) := by decide +kernel
theorem dax165 : decode jdk_2101_method_53_code 165 = .ok (.ldiv, 1) := by decide +kernel
theorem dax166 : decode jdk_2101_method_53_code 166 = .ok (.l2i, 1) := by decide +kernel
theorem dax167 : decode jdk_2101_method_53_code 167 = .ok (.iastore, 1) := by decide +kernel
theorem dax168 : decode jdk_2101_method_53_code 168 = .ok (.lload 7, 2) := by decide +kernel
theorem dax170 : decode jdk_2101_method_53_code 170 = .ok (.aload_n 2, 1) := by decide +kernel
theorem dax171 : decode jdk_2101_method_53_code 171 = .ok (.getfield 17, 3) := by decide +kernel
theorem dax174 : decode jdk_2101_method_53_code 174 = .ok (.iconst 0, 1) := by decide +kernel
theorem dax175 : decode jdk_2101_method_53_code 175 = .ok (.iaload, 1) := by decide +kernel
theorem dax176 : decode jdk_2101_method_53_code 176 = .ok (.i2l, 1) := by decide +kernel
theorem dax177 : decode jdk_2101_method_53_code 177 = .ok (.lload_n 3, 1) := by decide +kernel
theorem dax178 : decode jdk_2101_method_53_code 178 = .ok (.lmul, 1) := by decide +kernel
theorem dax179 : decode jdk_2101_method_53_code 179 = .ok (.lsub, 1) := by decide +kernel
theorem dax180 : decode jdk_2101_method_53_code 180 = .ok (.l2i, 1) := by decide +kernel
theorem dax181 : decode jdk_2101_method_53_code 181 = .ok (.istore 6, 2) := by decide +kernel
theorem dax183 : decode jdk_2101_method_53_code 183 = .ok (.iload 6, 2) := by decide +kernel
theorem dax185 : decode jdk_2101_method_53_code 185 = .ok (.i2l, 1) := by decide +kernel
theorem dax186 : decode jdk_2101_method_53_code 186 = .ok (.ldc2_w 52, 3) := by decide +kernel
theorem dax189 : decode jdk_2101_method_53_code 189 = .ok (.land, 1) := by decide +kernel
theorem dax190 : decode jdk_2101_method_53_code 190 = .ok (.lstore 7, 2) := by decide +kernel
theorem dax192 : decode jdk_2101_method_53_code 192 = .ok (.aload_n 0, 1) := by decide +kernel
theorem dax193 : decode jdk_2101_method_53_code 193 = .ok (.getfield 21, 3) := by decide +kernel
theorem dax196 : decode jdk_2101_method_53_code 196 = .ok (.istore 9, 2) := by decide +kernel
theorem dax198 : decode jdk_2101_method_53_code 198 = .ok (.iinc 9 (-1), 3) := by decide +kernel
theorem dax201 : decode jdk_2101_method_53_code 201 = .ok (.iload 9, 2) := by decide +kernel
theorem dax203 : decode jdk_2101_method_53_code 203 = .ok (.ifCond .le 112, 3) := by decide +kernel
theorem dax206 : decode jdk_2101_method_53_code 206 = .ok (.lload 7, 2) := by decide +kernel
theorem dax208 : decode jdk_2101_method_53_code 208 = .ok (.bipush 32, 2) := by decide +kernel
theorem dax210 : decode jdk_2101_method_53_code 210 = .ok (.lshl, 1) := by decide +kernel
theorem dax211 : decode jdk_2101_method_53_code 211 = .ok (.aload_n 0, 1) := by decide +kernel
theorem dax212 : decode jdk_2101_method_53_code 212 = .ok (.getfield 17, 3) := by decide +kernel
theorem dax215 : decode jdk_2101_method_53_code 215 = .ok (.aload_n 0, 1) := by decide +kernel
theorem dax216 : decode jdk_2101_method_53_code 216 = .ok (.getfield 11, 3) := by decide +kernel
theorem dax219 : decode jdk_2101_method_53_code 219 = .ok (.aload_n 0, 1) := by decide +kernel
theorem dax220 : decode jdk_2101_method_53_code 220 = .ok (.getfield 21, 3) := by decide +kernel
theorem dax223 : decode jdk_2101_method_53_code 223 = .ok (.iadd, 1) := by decide +kernel
theorem dax224 : decode jdk_2101_method_53_code 224 = .ok (.iload 9, 2) := by decide +kernel
theorem dax226 : decode jdk_2101_method_53_code 226 = .ok (.isub, 1) := by decide +kernel
theorem dax227 : decode jdk_2101_method_53_code 227 = .ok (.iaload, 1) := by decide +kernel
theorem dax228 : decode jdk_2101_method_53_code 228 = .ok (.i2l, 1) := by decide +kernel
theorem dax229 : decode jdk_2101_method_53_code 229 = .ok (.ldc2_w 52, 3) := by decide +kernel
theorem dax232 : decode jdk_2101_method_53_code 232 = .ok (.land, 1) := by decide +kernel
theorem dax233 : decode jdk_2101_method_53_code 233 = .ok (.lor, 1) := by decide +kernel
theorem dax234 : decode jdk_2101_method_53_code 234 = .ok (.lstore 10, 2) := by decide +kernel
theorem dax236 : decode jdk_2101_method_53_code 236 = .ok (.lload 10, 2) := by decide +kernel
theorem dax238 : decode jdk_2101_method_53_code 238 = .ok (.lconst 0, 1) := by decide +kernel
theorem dax239 : decode jdk_2101_method_53_code 239 = .ok (.lcmp, 1) := by decide +kernel
theorem dax240 : decode jdk_2101_method_53_code 240 = .ok (.ifCond .lt 24, 3) := by decide +kernel
theorem dax243 : decode jdk_2101_method_53_code 243 = .ok (.lload 10, 2) := by decide +kernel
theorem dax245 : decode jdk_2101_method_53_code 245 = .ok (.lload_n 3, 1) := by decide +kernel
theorem dax246 : decode jdk_2101_method_53_code 246 = .ok (.ldiv, 1) := by decide +kernel
theorem dax247 : decode jdk_2101_method_53_code 247 = .ok (.l2i, 1) := by decide +kernel
theorem dax248 : decode jdk_2101_method_53_code 248 = .ok (.istore 12, 2) := by decide +kernel
theorem dax250 : decode jdk_2101_method_53_code 250 = .ok (.lload 10, 2) := by decide +kernel
theorem dax252 : decode jdk_2101_method_53_code 252 = .ok (.iload 12, 2) := by decide +kernel
theorem dax254 : decode jdk_2101_method_53_code 254 = .ok (.i2l, 1) := by decide +kernel
theorem dax255 : decode jdk_2101_method_53_code 255 = .ok (.lload_n 3, 1) := by decide +kernel
theorem dax256 : decode jdk_2101_method_53_code 256 = .ok (.lmul, 1) := by decide +kernel
theorem dax257 : decode jdk_2101_method_53_code 257 = .ok (.lsub, 1) := by decide +kernel
theorem dax258 : decode jdk_2101_method_53_code 258 = .ok (.l2i, 1) := by decide +kernel
theorem dax259 : decode jdk_2101_method_53_code 259 = .ok (.istore 6, 2) := by decide +kernel
theorem dax261 : decode jdk_2101_method_53_code 261 = .ok (.goto 28, 3) := by decide +kernel
theorem dax289 : decode jdk_2101_method_53_code 289 = .ok (.aload_n 2, 1) := by decide +kernel
theorem dax290 : decode jdk_2101_method_53_code 290 = .ok (.getfield 17, 3) := by decide +kernel
theorem dax293 : decode jdk_2101_method_53_code 293 = .ok (.aload_n 0, 1) := by decide +kernel
theorem dax294 : decode jdk_2101_method_53_code 294 = .ok (.getfield 21, 3) := by decide +kernel
theorem dax297 : decode jdk_2101_method_53_code 297 = .ok (.iload 9, 2) := by decide +kernel
theorem dax299 : decode jdk_2101_method_53_code 299 = .ok (.isub, 1) := by decide +kernel
theorem dax300 : decode jdk_2101_method_53_code 300 = .ok (.iload 12, 2) := by decide +kernel
theorem dax302 : decode jdk_2101_method_53_code 302 = .ok (.iastore, 1) := by decide +kernel
theorem dax303 : decode jdk_2101_method_53_code 303 = .ok (.iload 6, 2) := by decide +kernel
theorem dax305 : decode jdk_2101_method_53_code 305 = .ok (.i2l, 1) := by decide +kernel
theorem dax306 : decode jdk_2101_method_53_code 306 = .ok (.ldc2_w 52, 3) := by decide +kernel
theorem dax309 : decode jdk_2101_method_53_code 309 = .ok (.land, 1) := by decide +kernel
theorem dax310 : decode jdk_2101_method_53_code 310 = .ok (.lstore 7, 2) := by decide +kernel
theorem dax312 : decode jdk_2101_method_53_code 312 = .ok (.goto (-114), 3) := by decide +kernel
theorem dax315 : decode jdk_2101_method_53_code 315 = .ok (.aload_n 2, 1) := by decide +kernel
theorem dax316 : decode jdk_2101_method_53_code 316 = .ok (.invokevirtual 64, 3) := by decide +kernel
theorem dax319 : decode jdk_2101_method_53_code 319 = .ok (.iload 5, 2) := by decide +kernel
theorem dax321 : decode jdk_2101_method_53_code 321 = .ok (.ifCond .le 8, 3) := by decide +kernel
theorem dax324 : decode jdk_2101_method_53_code 324 = .ok (.iload 6, 2) := by decide +kernel
theorem dax326 : decode jdk_2101_method_53_code 326 = .ok (.iload_n 1, 1) := by decide +kernel
theorem dax327 : decode jdk_2101_method_53_code 327 = .ok (.irem, 1) := by decide +kernel
theorem dax328 : decode jdk_2101_method_53_code 328 = .ok (.ireturn, 1) := by decide +kernel
theorem day0 : decode jdk_2101_method_57_code 0 = .ok (.aload_n 1, 1) := by decide +kernel
theorem day1 : decode jdk_2101_method_57_code 1 = .ok (.getfield 21, 3) := by decide +kernel
theorem day4 : decode jdk_2101_method_57_code 4 = .ok (.ifCond .ne 13, 3) := by decide +kernel
theorem day17 : decode jdk_2101_method_57_code 17 = .ok (.aload_n 0, 1) := by decide +kernel
theorem day18 : decode jdk_2101_method_57_code 18 = .ok (.getfield 21, 3) := by decide +kernel
theorem day21 : decode jdk_2101_method_57_code 21 = .ok (.ifCond .ne 29, 3) := by decide +kernel
theorem day24 : decode jdk_2101_method_57_code 24 = .ok (.aload_n 2, 1) := by decide +kernel
theorem day25 : decode jdk_2101_method_57_code 25 = .ok (.aload_n 2, 1) := by decide +kernel
theorem day26 : decode jdk_2101_method_57_code 26 = .ok (.iconst 0, 1) := by decide +kernel
theorem day27 : decode jdk_2101_method_57_code 27 = .ok (.dup_x1, 1) := by decide +kernel
theorem day28 : decode jdk_2101_method_57_code 28 = .ok (.putfield 11, 3) := by decide +kernel
theorem day31 : decode jdk_2101_method_57_code 31 = .ok (.putfield 21, 3) := by decide +kernel
theorem day34 : decode jdk_2101_method_57_code 34 = .ok (.iload_n 3, 1) := by decide +kernel
theorem day35 : decode jdk_2101_method_57_code 35 = .ok (.ifCond .eq 13, 3) := by decide +kernel
theorem day48 : decode jdk_2101_method_57_code 48 = .ok (.aconst_null, 1) := by decide +kernel
theorem day49 : decode jdk_2101_method_57_code 49 = .ok (.areturn, 1) := by decide +kernel
theorem day50 : decode jdk_2101_method_57_code 50 = .ok (.aload_n 0, 1) := by decide +kernel
theorem day51 : decode jdk_2101_method_57_code 51 = .ok (.aload_n 1, 1) := by decide +kernel
theorem day52 : decode jdk_2101_method_57_code 52 = .ok (.invokevirtual 142, 3) := by decide +kernel
theorem day55 : decode jdk_2101_method_57_code 55 = .ok (.istore 4, 2) := by decide +kernel
theorem day57 : decode jdk_2101_method_57_code 57 = .ok (.iload 4, 2) := by decide +kernel
theorem day59 : decode jdk_2101_method_57_code 59 = .ok (.ifCond .ge 30, 3) := by decide +kernel
theorem day89 : decode jdk_2101_method_57_code 89 = .ok (.iload 4, 2) := by decide +kernel
theorem day91 : decode jdk_2101_method_57_code 91 = .ok (.ifCond .ne 36, 3) := by decide +kernel
theorem day94 : decode jdk_2101_method_57_code 94 = .ok (.aload_n 2, 1) := by decide +kernel
theorem day95 : decode jdk_2101_method_57_code 95 = .ok (.getfield 17, 3) := by decide +kernel
theorem day98 : decode jdk_2101_method_57_code 98 = .ok (.iconst 0, 1) := by decide +kernel
theorem day99 : decode jdk_2101_method_57_code 99 = .ok (.aload_n 2, 1) := by decide +kernel
theorem day100 : decode jdk_2101_method_57_code 100 = .ok (.iconst 1, 1) := by decide +kernel
theorem day101 : decode jdk_2101_method_57_code 101 = .ok (.dup_x1, 1) := by decide +kernel
theorem day102 : decode jdk_2101_method_57_code 102 = .ok (.putfield 21, 3) := by decide +kernel
theorem day105 : decode jdk_2101_method_57_code 105 = .ok (.iastore, 1) := by decide +kernel
theorem day106 : decode jdk_2101_method_57_code 106 = .ok (.aload_n 2, 1) := by decide +kernel
theorem day107 : decode jdk_2101_method_57_code 107 = .ok (.iconst 0, 1) := by decide +kernel
theorem day108 : decode jdk_2101_method_57_code 108 = .ok (.putfield 11, 3) := by decide +kernel
theorem day111 : decode jdk_2101_method_57_code 111 = .ok (.iload_n 3, 1) := by decide +kernel
theorem day112 : decode jdk_2101_method_57_code 112 = .ok (.ifCond .eq 13, 3) := by decide +kernel
theorem day125 : decode jdk_2101_method_57_code 125 = .ok (.aconst_null, 1) := by decide +kernel
theorem day126 : decode jdk_2101_method_57_code 126 = .ok (.areturn, 1) := by decide +kernel
theorem day127 : decode jdk_2101_method_57_code 127 = .ok (.aload_n 2, 1) := by decide +kernel
theorem day128 : decode jdk_2101_method_57_code 128 = .ok (.invokevirtual 149, 3) := by decide +kernel
theorem day131 : decode jdk_2101_method_57_code 131 = .ok (.aload_n 1, 1) := by decide +kernel
theorem day132 : decode jdk_2101_method_57_code 132 = .ok (.getfield 21, 3) := by decide +kernel
theorem day135 : decode jdk_2101_method_57_code 135 = .ok (.iconst 1, 1) := by decide +kernel
theorem day136 : decode jdk_2101_method_57_code 136 = .ok (.if_icmp .ne 48, 3) := by decide +kernel
theorem day139 : decode jdk_2101_method_57_code 139 = .ok (.aload_n 0, 1) := by decide +kernel
theorem day140 : decode jdk_2101_method_57_code 140 = .ok (.aload_n 1, 1) := by decide +kernel
theorem day141 : decode jdk_2101_method_57_code 141 = .ok (.getfield 17, 3) := by decide +kernel
theorem day144 : decode jdk_2101_method_57_code 144 = .ok (.aload_n 1, 1) := by decide +kernel
theorem day145 : decode jdk_2101_method_57_code 145 = .ok (.getfield 11, 3) := by decide +kernel
theorem day148 : decode jdk_2101_method_57_code 148 = .ok (.iaload, 1) := by decide +kernel
theorem day149 : decode jdk_2101_method_57_code 149 = .ok (.aload_n 2, 1) := by decide +kernel
theorem day150 : decode jdk_2101_method_57_code 150 = .ok (.invokevirtual 178, 3) := by decide +kernel
theorem day153 : decode jdk_2101_method_57_code 153 = .ok (.istore 5, 2) := by decide +kernel
theorem day155 : decode jdk_2101_method_57_code 155 = .ok (.iload_n 3, 1) := by decide +kernel
theorem day156 : decode jdk_2101_method_57_code 156 = .ok (.ifCond .eq 26, 3) := by decide +kernel
theorem day182 : decode jdk_2101_method_57_code 182 = .ok (.aconst_null, 1) := by decide +kernel
theorem day183 : decode jdk_2101_method_57_code 183 = .ok (.areturn, 1) := by decide +kernel
theorem daz0 : decode jdk_2097_method_62_code 0 = .ok (.new 541, 3) := by decide +kernel
theorem daz3 : decode jdk_2097_method_62_code 3 = .ok (.dup, 1) := by decide +kernel
theorem daz4 : decode jdk_2097_method_62_code 4 = .ok (.invokespecial 543, 3) := by decide +kernel
theorem daz7 : decode jdk_2097_method_62_code 7 = .ok (.astore_n 2, 1) := by decide +kernel
theorem daz8 : decode jdk_2097_method_62_code 8 = .ok (.new 541, 3) := by decide +kernel
theorem daz11 : decode jdk_2097_method_62_code 11 = .ok (.dup, 1) := by decide +kernel
theorem daz12 : decode jdk_2097_method_62_code 12 = .ok (.aload_n 0, 1) := by decide +kernel
theorem daz13 : decode jdk_2097_method_62_code 13 = .ok (.getfield 28, 3) := by decide +kernel
theorem daz16 : decode jdk_2097_method_62_code 16 = .ok (.invokespecial 544, 3) := by decide +kernel
theorem daz19 : decode jdk_2097_method_62_code 19 = .ok (.astore_n 3, 1) := by decide +kernel
theorem daz20 : decode jdk_2097_method_62_code 20 = .ok (.new 541, 3) := by decide +kernel
theorem daz23 : decode jdk_2097_method_62_code 23 = .ok (.dup, 1) := by decide +kernel
theorem daz24 : decode jdk_2097_method_62_code 24 = .ok (.aload_n 1, 1) := by decide +kernel
theorem daz25 : decode jdk_2097_method_62_code 25 = .ok (.getfield 28, 3) := by decide +kernel
theorem daz28 : decode jdk_2097_method_62_code 28 = .ok (.invokespecial 544, 3) := by decide +kernel
theorem daz31 : decode jdk_2097_method_62_code 31 = .ok (.astore 4, 2) := by decide +kernel
theorem daz33 : decode jdk_2097_method_62_code 33 = .ok (.aload_n 3, 1) := by decide +kernel
theorem daz34 : decode jdk_2097_method_62_code 34 = .ok (.aload 4, 2) := by decide +kernel
theorem daz36 : decode jdk_2097_method_62_code 36 = .ok (.aload_n 2, 1) := by decide +kernel
theorem daz37 : decode jdk_2097_method_62_code 37 = .ok (.iconst 0, 1) := by decide +kernel
theorem daz38 : decode jdk_2097_method_62_code 38 = .ok (.invokevirtual 545, 3) := by decide +kernel
theorem daz41 : decode jdk_2097_method_62_code 41 = .ok (.pop, 1) := by decide +kernel
theorem daz42 : decode jdk_2097_method_62_code 42 = .ok (.aload_n 2, 1) := by decide +kernel
theorem daz43 : decode jdk_2097_method_62_code 43 = .ok (.aload_n 0, 1) := by decide +kernel
theorem daz44 : decode jdk_2097_method_62_code 44 = .ok (.getfield 32, 3) := by decide +kernel
theorem daz47 : decode jdk_2097_method_62_code 47 = .ok (.aload_n 1, 1) := by decide +kernel
theorem daz48 : decode jdk_2097_method_62_code 48 = .ok (.getfield 32, 3) := by decide +kernel
theorem daz51 : decode jdk_2097_method_62_code 51 = .ok (.imul, 1) := by decide +kernel
theorem daz52 : decode jdk_2097_method_62_code 52 = .ok (.invokevirtual 548, 3) := by decide +kernel
theorem daz55 : decode jdk_2097_method_62_code 55 = .ok (.areturn, 1) := by decide +kernel
theorem dba0 : decode jdk_2097_method_61_code 0 = .ok (.aload_n 1, 1) := by decide +kernel
theorem dba1 : decode jdk_2097_method_61_code 1 = .ok (.getfield 28, 3) := by decide +kernel
theorem dba4 : decode jdk_2097_method_61_code 4 = .ok (.arraylength, 1) := by decide +kernel
theorem dba5 : decode jdk_2097_method_61_code 5 = .ok (.bipush 80, 2) := by decide +kernel
theorem dba7 : decode jdk_2097_method_61_code 7 = .ok (.if_icmp .lt 19, 3) := by decide +kernel
theorem dba26 : decode jdk_2097_method_61_code 26 = .ok (.aload_n 0, 1) := by decide +kernel
theorem dba27 : decode jdk_2097_method_61_code 27 = .ok (.aload_n 1, 1) := by decide +kernel
theorem dba28 : decode jdk_2097_method_61_code 28 = .ok (.invokevirtual 535, 3) := by decide +kernel
theorem dba31 : decode jdk_2097_method_61_code 31 = .ok (.areturn, 1) := by decide +kernel
theorem dbb0 : decode jdk_2097_method_30_code 0 = .ok (.aload_n 0, 1) := by decide +kernel
theorem dbb1 : decode jdk_2097_method_30_code 1 = .ok (.invokespecial 3, 3) := by decide +kernel
theorem dbb4 : decode jdk_2097_method_30_code 4 = .ok (.lload_n 1, 1) := by decide +kernel
theorem dbb5 : decode jdk_2097_method_30_code 5 = .ok (.lconst 0, 1) := by decide +kernel
theorem dbb6 : decode jdk_2097_method_30_code 6 = .ok (.lcmp, 1) := by decide +kernel
theorem dbb7 : decode jdk_2097_method_30_code 7 = .ok (.ifCond .ge 14, 3) := by decide +kernel
theorem dbb10 : decode jdk_2097_method_30_code 10 = .ok (.lload_n 1, 1) := by decide +kernel
theorem dbb11 : decode jdk_2097_method_30_code 11 = .ok (.lneg, 1) := by decide +kernel
theorem dbb12 : decode jdk_2097_method_30_code 12 = .ok (.lstore_n 1, 1) := by decide +kernel
theorem dbb13 : decode jdk_2097_method_30_code 13 = .ok (.aload_n 0, 1) := by decide +kernel
theorem dbb14 : decode jdk_2097_method_30_code 14 = .ok (.iconst (-1), 1) := by decide +kernel
theorem dbb15 : decode jdk_2097_method_30_code 15 = .ok (.putfield 32, 3) := by decide +kernel
theorem dbb18 : decode jdk_2097_method_30_code 18 = .ok (.goto 8, 3) := by decide +kernel
theorem dbb21 : decode jdk_2097_method_30_code 21 = .ok (.aload_n 0, 1) := by decide +kernel
theorem dbb22 : decode jdk_2097_method_30_code 22 = .ok (.iconst 1, 1) := by decide +kernel
theorem dbb23 : decode jdk_2097_method_30_code 23 = .ok (.putfield 32, 3) := by decide +kernel
theorem dbb26 : decode jdk_2097_method_30_code 26 = .ok (.lload_n 1, 1) := by decide +kernel
theorem dbb27 : decode jdk_2097_method_30_code 27 = .ok (.bipush 32, 2) := by decide +kernel
theorem dbb29 : decode jdk_2097_method_30_code 29 = .ok (.lushr, 1) := by decide +kernel
theorem dbb30 : decode jdk_2097_method_30_code 30 = .ok (.l2i, 1) := by decide +kernel
theorem dbb31 : decode jdk_2097_method_30_code 31 = .ok (.istore_n 3, 1) := by decide +kernel
theorem dbb32 : decode jdk_2097_method_30_code 32 = .ok (.iload_n 3, 1) := by decide +kernel
theorem dbb33 : decode jdk_2097_method_30_code 33 = .ok (.ifCond .ne 21, 3) := by decide +kernel
theorem dbb36 : decode jdk_2097_method_30_code 36 = .ok (.aload_n 0, 1) := by decide +kernel
theorem dbb37 : decode jdk_2097_method_30_code 37 = .ok (.iconst 1, 1) := by decide +kernel
theorem dbb38 : decode jdk_2097_method_30_code 38 = .ok (.newarray .int, 2) := by decide +kernel
theorem dbb40 : decode jdk_2097_method_30_code 40 = .ok (.putfield 28, 3) := by decide +kernel
theorem dbb43 : decode jdk_2097_method_30_code 43 = .ok (.aload_n 0, 1) := by decide +kernel
theorem dbb44 : decode jdk_2097_method_30_code 44 = .ok (.getfield 28, 3) := by decide +kernel
theorem dbb47 : decode jdk_2097_method_30_code 47 = .ok (.iconst 0, 1) := by decide +kernel
theorem dbb48 : decode jdk_2097_method_30_code 48 = .ok (.lload_n 1, 1) := by decide +kernel
theorem dbb49 : decode jdk_2097_method_30_code 49 = .ok (.l2i, 1) := by decide +kernel
theorem dbb50 : decode jdk_2097_method_30_code 50 = .ok (.iastore, 1) := by decide +kernel
theorem dbb51 : decode jdk_2097_method_30_code 51 = .ok (.goto 25, 3) := by decide +kernel
theorem dbb54 : decode jdk_2097_method_30_code 54 = .ok (.aload_n 0, 1) := by decide +kernel
theorem dbb55 : decode jdk_2097_method_30_code 55 = .ok (.iconst 2, 1) := by decide +kernel
theorem dbb56 : decode jdk_2097_method_30_code 56 = .ok (.newarray .int, 2) := by decide +kernel
theorem dbb58 : decode jdk_2097_method_30_code 58 = .ok (.putfield 28, 3) := by decide +kernel
theorem dbb61 : decode jdk_2097_method_30_code 61 = .ok (.aload_n 0, 1) := by decide +kernel
theorem dbb62 : decode jdk_2097_method_30_code 62 = .ok (.getfield 28, 3) := by decide +kernel
theorem dbb65 : decode jdk_2097_method_30_code 65 = .ok (.iconst 0, 1) := by decide +kernel
theorem dbb66 : decode jdk_2097_method_30_code 66 = .ok (.iload_n 3, 1) := by decide +kernel
theorem dbb67 : decode jdk_2097_method_30_code 67 = .ok (.iastore, 1) := by decide +kernel
theorem dbb68 : decode jdk_2097_method_30_code 68 = .ok (.aload_n 0, 1) := by decide +kernel
theorem dbb69 : decode jdk_2097_method_30_code 69 = .ok (.getfield 28, 3) := by decide +kernel
theorem dbb72 : decode jdk_2097_method_30_code 72 = .ok (.iconst 1, 1) := by decide +kernel
theorem dbb73 : decode jdk_2097_method_30_code 73 = .ok (.lload_n 1, 1) := by decide +kernel
theorem dbb74 : decode jdk_2097_method_30_code 74 = .ok (.l2i, 1) := by decide +kernel
theorem dbb75 : decode jdk_2097_method_30_code 75 = .ok (.iastore, 1) := by decide +kernel
theorem dbb76 : decode jdk_2097_method_30_code 76 = .ok (.return_, 1) := by decide +kernel
theorem dbc0 : decode jdk_2097_method_29_code 0 = .ok (.lload_n 0, 1) := by decide +kernel
theorem dbc1 : decode jdk_2097_method_29_code 1 = .ok (.lconst 0, 1) := by decide +kernel
theorem dbc2 : decode jdk_2097_method_29_code 2 = .ok (.lcmp, 1) := by decide +kernel
theorem dbc3 : decode jdk_2097_method_29_code 3 = .ok (.ifCond .ne 7, 3) := by decide +kernel
theorem dbc6 : decode jdk_2097_method_29_code 6 = .ok (.getstatic 22, 3) := by decide +kernel
theorem dbc9 : decode jdk_2097_method_29_code 9 = .ok (.areturn, 1) := by decide +kernel
theorem dbc10 : decode jdk_2097_method_29_code 10 = .ok (.lload_n 0, 1) := by decide +kernel
theorem dbc11 : decode jdk_2097_method_29_code 11 = .ok (.lconst 0, 1) := by decide +kernel
theorem dbc12 : decode jdk_2097_method_29_code 12 = .ok (.lcmp, 1) := by decide +kernel
theorem dbc13 : decode jdk_2097_method_29_code 13 = .ok (.ifCond .le 18, 3) := by decide +kernel
theorem dbc16 : decode jdk_2097_method_29_code 16 = .ok (.lload_n 0, 1) := by decide +kernel
theorem dbc17 : decode jdk_2097_method_29_code 17 = .ok (.ldc2_w 345, 3) := by decide +kernel
theorem dbc20 : decode jdk_2097_method_29_code 20 = .ok (.lcmp, 1) := by decide +kernel
theorem dbc21 : decode jdk_2097_method_29_code 21 = .ok (.ifCond .gt 10, 3) := by decide +kernel
theorem dbc24 : decode jdk_2097_method_29_code 24 = .ok (.getstatic 347, 3) := by decide +kernel
theorem dbc27 : decode jdk_2097_method_29_code 27 = .ok (.lload_n 0, 1) := by decide +kernel
theorem dbc28 : decode jdk_2097_method_29_code 28 = .ok (.l2i, 1) := by decide +kernel
theorem dbc29 : decode jdk_2097_method_29_code 29 = .ok (.aaload, 1) := by decide +kernel
theorem dbc30 : decode jdk_2097_method_29_code 30 = .ok (.areturn, 1) := by decide +kernel
theorem dbc31 : decode jdk_2097_method_29_code 31 = .ok (.lload_n 0, 1) := by decide +kernel
theorem dbc32 : decode jdk_2097_method_29_code 32 = .ok (.lconst 0, 1) := by decide +kernel
theorem dbc33 : decode jdk_2097_method_29_code 33 = .ok (.lcmp, 1) := by decide +kernel
theorem dbc34 : decode jdk_2097_method_29_code 34 = .ok (.ifCond .ge 19, 3) := by decide +kernel
theorem dbc37 : decode jdk_2097_method_29_code 37 = .ok (.lload_n 0, 1) := by decide +kernel
theorem dbc38 : decode jdk_2097_method_29_code 38 = .ok (.ldc2_w 351, 3) := by decide +kernel
theorem dbc41 : decode jdk_2097_method_29_code 41 = .ok (.lcmp, 1) := by decide +kernel
theorem dbc42 : decode jdk_2097_method_29_code 42 = .ok (.ifCond .lt 11, 3) := by decide +kernel
theorem dbc45 : decode jdk_2097_method_29_code 45 = .ok (.getstatic 353, 3) := by decide +kernel
theorem dbc48 : decode jdk_2097_method_29_code 48 = .ok (.lload_n 0, 1) := by decide +kernel
theorem dbc49 : decode jdk_2097_method_29_code 49 = .ok (.lneg, 1) := by decide +kernel
theorem dbc50 : decode jdk_2097_method_29_code 50 = .ok (.l2i, 1) := by decide +kernel
theorem dbc51 : decode jdk_2097_method_29_code 51 = .ok (.aaload, 1) := by decide +kernel
theorem dbc52 : decode jdk_2097_method_29_code 52 = .ok (.areturn, 1) := by decide +kernel
theorem dbc53 : decode jdk_2097_method_29_code 53 = .ok (.new 23, 3) := by decide +kernel
theorem dbc56 : decode jdk_2097_method_29_code 56 = .ok (.dup, 1) := by decide +kernel
theorem dbc57 : decode jdk_2097_method_29_code 57 = .ok (.lload_n 0, 1) := by decide +kernel
theorem dbc58 : decode jdk_2097_method_29_code 58 = .ok (.invokespecial 356, 3) := by decide +kernel
theorem dbc61 : decode jdk_2097_method_29_code 61 = .ok (.areturn, 1) := by decide +kernel
theorem dbd0 : decode prog_5_method_1_code 0 = .ok (.aload_n 0, 1) := by decide +kernel
theorem dbd1 : decode prog_5_method_1_code 1 = .ok (.invokespecial 1, 3) := by decide +kernel
theorem dbd4 : decode prog_5_method_1_code 4 = .ok (.aload_n 0, 1) := by decide +kernel
theorem dbd5 : decode prog_5_method_1_code 5 = .ok (.aload_n 1, 1) := by decide +kernel
theorem dbd6 : decode prog_5_method_1_code 6 = .ok (.putfield 7, 3) := by decide +kernel
theorem dbd9 : decode prog_5_method_1_code 9 = .ok (.aload_n 0, 1) := by decide +kernel
theorem dbd10 : decode prog_5_method_1_code 10 = .ok (.aload_n 2, 1) := by decide +kernel
theorem dbd11 : decode prog_5_method_1_code 11 = .ok (.putfield 13, 3) := by decide +kernel
theorem dbd14 : decode prog_5_method_1_code 14 = .ok (.return_, 1) := by decide +kernel
theorem dbe0 : decode prog_5_method_2_code 0 = .ok (.new 8, 3) := by decide +kernel
theorem dbe3 : decode prog_5_method_2_code 3 = .ok (.dup, 1) := by decide +kernel
theorem dbe4 : decode prog_5_method_2_code 4 = .ok (.lload_n 0, 1) := by decide +kernel
theorem dbe5 : decode prog_5_method_2_code 5 = .ok (.invokestatic 16, 3) := by decide +kernel
theorem dbe8 : decode prog_5_method_2_code 8 = .ok (.getstatic 22, 3) := by decide +kernel
theorem dbe11 : decode prog_5_method_2_code 11 = .ok (.invokespecial 25, 3) := by decide +kernel
theorem dbe14 : decode prog_5_method_2_code 14 = .ok (.areturn, 1) := by decide +kernel
theorem dbf0 : decode jdk_2097_method_81_code 0 = .ok (.aload_n 0, 1) := by decide +kernel
theorem dbf1 : decode jdk_2097_method_81_code 1 = .ok (.getfield 32, 3) := by decide +kernel
theorem dbf4 : decode jdk_2097_method_81_code 4 = .ok (.ireturn, 1) := by decide +kernel
theorem dbg0 : decode prog_5_method_4_code 0 = .ok (.aload_n 1, 1) := by decide +kernel
theorem dbg1 : decode prog_5_method_4_code 1 = .ok (.invokevirtual 32, 3) := by decide +kernel
theorem dbg4 : decode prog_5_method_4_code 4 = .ok (.ifCond .ne 20, 3) := by decide +kernel
theorem dbg24 : decode prog_5_method_4_code 24 = .ok (.aload_n 0, 1) := by decide +kernel
theorem dbg25 : decode prog_5_method_4_code 25 = .ok (.aload_n 1, 1) := by decide +kernel
theorem dbg26 : decode prog_5_method_4_code 26 = .ok (.invokevirtual 50, 3) := by decide +kernel
theorem dbg29 : decode prog_5_method_4_code 29 = .ok (.astore_n 2, 1) := by decide +kernel
theorem dbg30 : decode prog_5_method_4_code 30 = .ok (.aload_n 1, 1) := by decide +kernel
theorem dbg31 : decode prog_5_method_4_code 31 = .ok (.invokevirtual 32, 3) := by decide +kernel
theorem dbg34 : decode prog_5_method_4_code 34 = .ok (.ifCond .ge 8, 3) := by decide +kernel
theorem dbg42 : decode prog_5_method_4_code 42 = .ok (.new 8, 3) := by decide +kernel
theorem dbg45 : decode prog_5_method_4_code 45 = .ok (.dup, 1) := by decide +kernel
theorem dbg46 : decode prog_5_method_4_code 46 = .ok (.aload_n 0, 1) := by decide +kernel
theorem dbg47 : decode prog_5_method_4_code 47 = .ok (.aload_n 2, 1) := by decide +kernel
theorem dbg48 : decode prog_5_method_4_code 48 = .ok (.invokevirtual 58, 3) := by decide +kernel
theorem dbg51 : decode prog_5_method_4_code 51 = .ok (.aload_n 1, 1) := by decide +kernel
theorem dbg52 : decode prog_5_method_4_code 52 = .ok (.aload_n 2, 1) := by decide +kernel
theorem dbg53 : decode prog_5_method_4_code 53 = .ok (.invokevirtual 58, 3) := by decide +kernel
theorem dbg56 : decode prog_5_method_4_code 56 = .ok (.invokespecial 25, 3) := by decide +kernel
theorem dbg59 : decode prog_5_method_4_code 59 = .ok (.areturn, 1) := by decide +kernel
theorem dbh0 : decode prog_5_method_3_code 0 = .ok (.lload_n 0, 1) := by decide +kernel
theorem dbh1 : decode prog_5_method_3_code 1 = .ok (.invokestatic 16, 3) := by decide +kernel
theorem dbh4 : decode prog_5_method_3_code 4 = .ok (.lload_n 2, 1) := by decide +kernel
theorem dbh5 : decode prog_5_method_3_code 5 = .ok (.invokestatic 16, 3) := by decide +kernel
theorem dbh8 : decode prog_5_method_3_code 8 = .ok (.invokestatic 28, 3) := by decide +kernel
theorem dbh11 : decode prog_5_method_3_code 11 = .ok (.areturn, 1) := by decide +kernel
theorem dbi0 : decode jdk_2097_method_102_code 0 = .ok (.iload_n 1, 1) := by decide +kernel
theorem dbi1 : decode jdk_2097_method_102_code 1 = .ok (.iconst 5, 1) := by decide +kernel
theorem dbi2 : decode jdk_2097_method_102_code 2 = .ok (.iushr, 1) := by decide +kernel
theorem dbi3 : decode jdk_2097_method_102_code 3 = .ok (.istore_n 2, 1) := by decide +kernel
theorem dbi4 : decode jdk_2097_method_102_code 4 = .ok (.iload_n 1, 1) := by decide +kernel
theorem dbi5 : decode jdk_2097_method_102_code 5 = .ok (.bipush 31, 2) := by decide +kernel
theorem dbi7 : decode jdk_2097_method_102_code 7 = .ok (.iand, 1) := by decide +kernel
theorem dbi8 : decode jdk_2097_method_102_code 8 = .ok (.istore_n 3, 1) := by decide +kernel
theorem dbi9 : decode jdk_2097_method_102_code 9 = .ok (.aload_n 0, 1) := by decide +kernel
theorem dbi10 : decode jdk_2097_method_102_code 10 = .ok (.arraylength, 1) := by decide +kernel
theorem dbi11 : decode jdk_2097_method_102_code 11 = .ok (.istore 4, 2) := by decide +kernel
theorem dbi13 : decode jdk_2097_method_102_code 13 = .ok (.aconst_null, 1) := by decide +kernel
theorem dbi14 : decode jdk_2097_method_102_code 14 = .ok (.astore 5, 2) := by decide +kernel
theorem dbi16 : decode jdk_2097_method_102_code 16 = .ok (.iload_n 3, 1) := by decide +kernel
theorem dbi17 : decode jdk_2097_method_102_code 17 = .ok (.ifCond .ne 24, 3) := by decide +kernel
theorem dbi20 : decode jdk_2097_method_102_code 20 = .ok (.iload 4, 2) := by decide +kernel
theorem dbi22 : decode jdk_2097_method_102_code 22 = .ok (.iload_n 2, 1) := by decide +kernel
theorem dbi23 : decode jdk_2097_method_102_code 23 = .ok (.iadd, 1) := by decide +kernel
theorem dbi24 : decode jdk_2097_method_102_code 24 = .ok (.newarray .int, 2) := by decide +kernel
theorem dbi26 : decode jdk_2097_method_102_code 26 = .ok (.astore 5, 2) := by decide +kernel
theorem dbi28 : decode jdk_2097_method_102_code 28 = .ok (.aload_n 0, 1) := by decide +kernel
theorem dbi29 : decode jdk_2097_method_102_code 29 = .ok (.iconst 0, 1) := by decide +kernel
theorem dbi30 : decode jdk_2097_method_102_code 30 = .ok (.aload 5, 2) := by decide +kernel
theorem dbi32 : decode jdk_2097_method_102_code 32 = .ok (.iconst 0, 1) := by decide +kernel
theorem dbi33 : decode jdk_2097_method_102_code 33 = .ok (.iload 4, 2) := by decide +kernel
theorem dbi35 : decode jdk_2097_method_102_code 35 = .ok (.invokestatic 388, 3) := by decide +kernel
theorem dbi38 : decode jdk_2097_method_102_code 38 = .ok (.goto 114, 3) := by decide +kernel
theorem dbi152 : decode jdk_2097_method_102_code 152 = .ok (.aload 5, 2) := by decide +kernel
theorem dbi154 : decode jdk_2097_method_102_code 154 = .ok (.areturn, 1) := by decide +kernel
theorem dbj0 : decode jdk_2097_method_43_code 0 = .ok (.iload_n 1, 1) := by decide +kernel
theorem dbj1 : decode jdk_2097_method_43_code 1 = .ok (.invokestatic 423, 3) := by decide +kernel
theorem dbj4 : decode jdk_2097_method_43_code 4 = .ok (.iconst 1, 1) := by decide +kernel
theorem dbj5 : decode jdk_2097_method_43_code 5 = .ok (.if_icmp .ne 20, 3) := by decide +kernel
theorem dbj8 : decode jdk_2097_method_43_code 8 = .ok (.new 23, 3) := by decide +kernel
theorem dbj11 : decode jdk_2097_method_43_code 11 = .ok (.dup, 1) := by decide +kernel
theorem dbj12 : decode jdk_2097_method_43_code 12 = .ok (.aload_n 0, 1) := by decide +kernel
theorem dbj13 : decode jdk_2097_method_43_code 13 = .ok (.iload_n 1, 1) := by decide +kernel
theorem dbj14 : decode jdk_2097_method_43_code 14 = .ok (.invokestatic 426, 3) := by decide +kernel
theorem dbj17 : decode jdk_2097_method_43_code 17 = .ok (.invokestatic 429, 3) := by decide +kernel
theorem dbj20 : decode jdk_2097_method_43_code 20 = .ok (.iload_n 2, 1) := by decide +kernel
theorem dbj21 : decode jdk_2097_method_43_code 21 = .ok (.invokespecial 175, 3) := by decide +kernel
theorem dbj24 : decode jdk_2097_method_43_code 24 = .ok (.areturn, 1) := by decide +kernel
theorem dbk0 : decode jdk_2097_method_42_code 0 = .ok (.aload_n 1, 1) := by decide +kernel
theorem dbk1 : decode jdk_2097_method_42_code 1 = .ok (.getfield 32, 3) := by decide +kernel
theorem dbk4 : decode jdk_2097_method_42_code 4 = .ok (.ifCond .eq 10, 3) := by decide +kernel
theorem dbk7 : decode jdk_2097_method_42_code 7 = .ok (.aload_n 0, 1) := by decide +kernel
theorem dbk8 : decode jdk_2097_method_42_code 8 = .ok (.getfield 32, 3) := by decide +kernel
theorem dbk11 : decode jdk_2097_method_42_code 11 = .ok (.ifCond .ne 7, 3) := by decide +kernel
theorem dbk14 : decode jdk_2097_method_42_code 14 = .ok (.getstatic 22, 3) := by decide +kernel
theorem dbk17 : decode jdk_2097_method_42_code 17 = .ok (.areturn, 1) := by decide +kernel
theorem dbk18 : decode jdk_2097_method_42_code 18 = .ok (.aload_n 0, 1) := by decide +kernel
theorem dbk19 : decode jdk_2097_method_42_code 19 = .ok (.getfield 28, 3) := by decide +kernel
theorem dbk22 : decode jdk_2097_method_42_code 22 = .ok (.arraylength, 1) := by decide +kernel
theorem dbk23 : decode jdk_2097_method_42_code 23 = .ok (.istore 5, 2) := by decide +kernel
theorem dbk25 : decode jdk_2097_method_42_code 25 = .ok (.aload_n 1, 1) := by decide +kernel
theorem dbk26 : decode jdk_2097_method_42_code 26 = .ok (.aload_n 0, 1) := by decide +kernel
theorem dbk27 : decode jdk_2097_method_42_code 27 = .ok (.if_acmp .ne 19, 3) := by decide +kernel
theorem dbk30 : decode jdk_2097_method_42_code 30 = .ok (.iload 5, 2) := by decide +kernel
theorem dbk32 : decode jdk_2097_method_42_code 32 = .ok (.bipush 20, 2) := by decide +kernel
theorem dbk34 : decode jdk_2097_method_42_code 34 = .ok (.if_icmp .le 12, 3) := by decide +kernel
theorem dbk46 : decode jdk_2097_method_42_code 46 = .ok (.aload_n 1, 1) := by decide +kernel
theorem dbk47 : decode jdk_2097_method_42_code 47 = .ok (.getfield 28, 3) := by decide +kernel
theorem dbk50 : decode jdk_2097_method_42_code 50 = .ok (.arraylength, 1) := by decide +kernel
theorem dbk51 : decode jdk_2097_method_42_code 51 = .ok (.istore 6, 2) := by decide +kernel
theorem dbk53 : decode jdk_2097_method_42_code 53 = .ok (.iload 5, 2) := by decide +kernel
theorem dbk55 : decode jdk_2097_method_42_code 55 = .ok (.bipush 80, 2) := by decide +kernel
theorem dbk57 : decode jdk_2097_method_42_code 57 = .ok (.if_icmp .lt 10, 3) := by decide +kernel
theorem dbk67 : decode jdk_2097_method_42_code 67 = .ok (.aload_n 0, 1) := by decide +kernel
theorem dbk68 : decode jdk_2097_method_42_code 68 = .ok (.getfield 32, 3) := by decide +kernel
theorem dbk71 : decode jdk_2097_method_42_code 71 = .ok (.aload_n 1, 1) := by decide +kernel
theorem dbk72 : decode jdk_2097_method_42_code 72 = .ok (.getfield 32, 3) := by decide +kernel
theorem dbk75 : decode jdk_2097_method_42_code 75 = .ok (.if_icmp .ne 7, 3) := by decide +kernel
theorem dbk78 : decode jdk_2097_method_42_code 78 = .ok (.iconst 1, 1) := by decide +kernel
theorem dbk79 : decode jdk_2097_method_42_code 79 = .ok (.goto 4, 3) := by decide +kernel
theorem dbk82 : decode jdk_2097_method_42_code 82 = .ok (.iconst (-1), 1) := by decide +kernel
theorem dbk83 : decode jdk_2097_method_42_code 83 = .ok (.istore 7, 2) := by decide +kernel
theorem dbk85 : decode jdk_2097_method_42_code 85 = .ok (.aload_n 1, 1) := by decide +kernel
theorem dbk86 : decode jdk_2097_method_42_code 86 = .ok (.getfield 28, 3) := by decide +kernel
theorem dbk89 : decode jdk_2097_method_42_code 89 = .ok (.arraylength, 1) := by decide +kernel
theorem dbk90 : decode jdk_2097_method_42_code 90 = .ok (.iconst 1, 1) := by decide +kernel
theorem dbk91 : decode jdk_2097_method_42_code 91 = .ok (.if_icmp .ne 19, 3) := by decide +kernel
theorem dbk94 : decode jdk_2097_method_42_code 94 = .ok (.aload_n 0, 1) := by decide +kernel
theorem dbk95 : decode jdk_2097_method_42_code 95 = .ok (.getfield 28, 3) := by decide +kernel
theorem dbk98 : decode jdk_2097_method_42_code 98 = .ok (.aload_n 1, 1) := by decide +kernel
theorem dbk99 : decode jdk_2097_method_42_code 99 = .ok (.getfield 28, 3) := by decide +kernel
theorem dbk102 : decode jdk_2097_method_42_code 102 = .ok (.iconst 0, 1) := by decide +kernel
theorem dbk103 : decode jdk_2097_method_42_code 103 = .ok (.iaload, 1) := by decide +kernel
theorem dbk104 : decode jdk_2097_method_42_code 104 = .ok (.iload 7, 2) := by decide +kernel
theorem dbk106 : decode jdk_2097_method_42_code 106 = .ok (.invokestatic 403, 3) := by decide +kernel
theorem dbk109 : decode jdk_2097_method_42_code 109 = .ok (.areturn, 1) := by decide +kernel
theorem dbl0 : decode jdk_2097_method_40_code 0 = .ok (.aload_n 0, 1) := by decide +kernel
theorem dbl1 : decode jdk_2097_method_40_code 1 = .ok (.aload_n 1, 1) := by decide +kernel
theorem dbl2 : decode jdk_2097_method_40_code 2 = .ok (.iconst 0, 1) := by decide +kernel
theorem dbl3 : decode jdk_2097_method_40_code 3 = .ok (.iconst 0, 1) := by decide +kernel
theorem dbl4 : decode jdk_2097_method_40_code 4 = .ok (.iconst 0, 1) := by decide +kernel
theorem dbl5 : decode jdk_2097_method_40_code 5 = .ok (.invokevirtual 397, 3) := by decide +kernel
theorem dbl8 : decode jdk_2097_method_40_code 8 = .ok (.areturn, 1) := by decide +kernel
theorem dbm0 : decode jdk_2097_method_124_code 0 = .ok (.aload_n 1, 1) := by decide +kernel
theorem dbm1 : decode jdk_2097_method_124_code 1 = .ok (.aload_n 0, 1) := by decide +kernel
theorem dbm2 : decode jdk_2097_method_124_code 2 = .ok (.if_acmp .ne 5, 3) := by decide +kernel
theorem dbm5 : decode jdk_2097_method_124_code 5 = .ok (.iconst 1, 1) := by decide +kernel
theorem dbm6 : decode jdk_2097_method_124_code 6 = .ok (.ireturn, 1) := by decide +kernel
theorem dbm7 : decode jdk_2097_method_124_code 7 = .ok (.aload_n 1, 1) := by decide +kernel
theorem dbm8 : decode jdk_2097_method_124_code 8 = .ok (.instanceof 23, 3) := by decide +kernel
theorem dbm11 : decode jdk_2097_method_124_code 11 = .ok (.ifCond .eq 11, 3) := by decide +kernel
theorem dbm14 : decode jdk_2097_method_124_code 14 = .ok (.aload_n 1, 1) := by decide +kernel
theorem dbm15 : decode jdk_2097_method_124_code 15 = .ok (.checkcast 23, 3) := by decide +kernel
theorem dbm18 : decode jdk_2097_method_124_code 18 = .ok (.astore_n 2, 1) := by decide +kernel
theorem dbm19 : decode jdk_2097_method_124_code 19 = .ok (.goto 5, 3) := by decide +kernel
theorem dbm24 : decode jdk_2097_method_124_code 24 = .ok (.aload_n 2, 1) := by decide +kernel
theorem dbm25 : decode jdk_2097_method_124_code 25 = .ok (.getfield 32, 3) := by decide +kernel
theorem dbm28 : decode jdk_2097_method_124_code 28 = .ok (.aload_n 0, 1) := by decide +kernel
theorem dbm29 : decode jdk_2097_method_124_code 29 = .ok (.getfield 32, 3) := by decide +kernel
theorem dbm32 : decode jdk_2097_method_124_code 32 = .ok (.if_icmp .eq 5, 3) := by decide +kernel
theorem dbm35 : decode jdk_2097_method_124_code 35 = .ok (.iconst 0, 1) := by decide +kernel
theorem dbm36 : decode jdk_2097_method_124_code 36 = .ok (.ireturn, 1) := by decide +kernel
theorem dbm37 : decode jdk_2097_method_124_code 37 = .ok (.aload_n 0, 1) := by decide +kernel
theorem dbm38 : decode jdk_2097_method_124_code 38 = .ok (.getfield 28, 3) := by decide +kernel
theorem dbm41 : decode jdk_2097_method_124_code 41 = .ok (.astore_n 3, 1) := by decide +kernel
theorem dbm42 : decode jdk_2097_method_124_code 42 = .ok (.aload_n 3, 1) := by decide +kernel
theorem dbm43 : decode jdk_2097_method_124_code 43 = .ok (.arraylength, 1) := by decide +kernel
theorem dbm44 : decode jdk_2097_method_124_code 44 = .ok (.istore 4, 2) := by decide +kernel
theorem dbm46 : decode jdk_2097_method_124_code 46 = .ok (.aload_n 2, 1) := by decide +kernel
theorem dbm47 : decode jdk_2097_method_124_code 47 = .ok (.getfield 28, 3) := by decide +kernel
theorem dbm50 : decode jdk_2097_method_124_code 50 = .ok (.astore 5, 2) := by decide +kernel
theorem dbm52 : decode jdk_2097_method_124_code 52 = .ok (.iload 4, 2) := by decide +kernel
theorem dbm54 : decode jdk_2097_method_124_code 54 = .ok (.aload 5, 2) := by decide +kernel
theorem dbm56 : decode jdk_2097_method_124_code 56 = .ok (.arraylength, 1) := by decide +kernel
theorem dbm57 : decode jdk_2097_method_124_code 57 = .ok (.if_icmp .eq 5, 3) := by decide +kernel
theorem dbm60 : decode jdk_2097_method_124_code 60 = .ok (.iconst 0, 1) := by decide +kernel
theorem dbm61 : decode jdk_2097_method_124_code 61 = .ok (.ireturn, 1) := by decide +kernel
theorem dbm62 : decode jdk_2097_method_124_code 62 = .ok (.iconst 0, 1) := by decide +kernel
theorem dbm63 : decode jdk_2097_method_124_code 63 = .ok (.istore 6, 2) := by decide +kernel
theorem dbm65 : decode jdk_2097_method_124_code 65 = .ok (.iload 6, 2) := by decide +kernel
theorem dbm67 : decode jdk_2097_method_124_code 67 = .ok (.iload 4, 2) := by decide +kernel
theorem dbm69 : decode jdk_2097_method_124_code 69 = .ok (.if_icmp .ge 23, 3) := by decide +kernel
theorem dbm72 : decode jdk_2097_method_124_code 72 = .ok (.aload 5, 2) := by decide +kernel
theorem dbm74 : decode jdk_2097_method_124_code 74 = .ok (.iload 6, 2) := by decide +kernel
theorem dbm76 : decode jdk_2097_method_124_code 76 = .ok (.iaload, 1) := by decide +kernel
theorem dbm77 : decode jdk_2097_method_124_code 77 = .ok (.aload_n 3, 1) := by decide +kernel
theorem dbm78 : decode jdk_2097_method_124_code 78 = .ok (.iload 6, 2) := by decide +kernel
theorem dbm80 : decode jdk_2097_method_124_code 80 = .ok (.iaload, 1) := by decide +kernel
theorem dbm81 : decode jdk_2097_method_124_code 81 = .ok (.if_icmp .eq 5, 3) := by decide +kernel
theorem dbm84 : decode jdk_2097_method_124_code 84 = .ok (.iconst 0, 1) := by decide +kernel
theorem dbm85 : decode jdk_2097_method_124_code 85 = .ok (.ireturn, 1) := by decide +kernel
theorem dbm86 : decode jdk_2097_method_124_code 86 = .ok (.iinc 6 1, 3) := by decide +kernel
theorem dbm89 : decode jdk_2097_method_124_code 89 = .ok (.goto (-24), 3) := by decide +kernel
theorem dbm92 : decode jdk_2097_method_124_code 92 = .ok (.iconst 1, 1) := by decide +kernel
theorem dbm93 : decode jdk_2097_method_124_code 93 = .ok (.ireturn, 1) := by decide +kernel
theorem dbn0 : decode jdk_2097_method_122_code 0 = .ok (.aload_n 0, 1) := by decide +kernel
theorem dbn1 : decode jdk_2097_method_122_code 1 = .ok (.getfield 28, 3) := by decide +kernel
theorem dbn4 : decode jdk_2097_method_122_code 4 = .ok (.astore_n 2, 1) := by decide +kernel
theorem dbn5 : decode jdk_2097_method_122_code 5 = .ok (.aload_n 2, 1) := by decide +kernel
theorem dbn6 : decode jdk_2097_method_122_code 6 = .ok (.arraylength, 1) := by decide +kernel
theorem dbn7 : decode jdk_2097_method_122_code 7 = .ok (.istore_n 3, 1) := by decide +kernel
theorem dbn8 : decode jdk_2097_method_122_code 8 = .ok (.aload_n 1, 1) := by decide +kernel
theorem dbn9 : decode jdk_2097_method_122_code 9 = .ok (.getfield 28, 3) := by decide +kernel
theorem dbn12 : decode jdk_2097_method_122_code 12 = .ok (.astore 4, 2) := by decide +kernel
theorem dbn14 : decode jdk_2097_method_122_code 14 = .ok (.aload 4, 2) := by decide +kernel
theorem dbn16 : decode jdk_2097_method_122_code 16 = .ok (.arraylength, 1) := by decide +kernel
theorem dbn17 : decode jdk_2097_method_122_code 17 = .ok (.istore 5, 2) := by decide +kernel
theorem dbn19 : decode jdk_2097_method_122_code 19 = .ok (.iload_n 3, 1) := by decide +kernel
theorem dbn20 : decode jdk_2097_method_122_code 20 = .ok (.iload 5, 2) := by decide +kernel
theorem dbn22 : decode jdk_2097_method_122_code 22 = .ok (.if_icmp .ge 5, 3) := by decide +kernel
theorem dbn25 : decode jdk_2097_method_122_code 25 = .ok (.iconst (-1), 1) := by decide +kernel
theorem dbn26 : decode jdk_2097_method_122_code 26 = .ok (.ireturn, 1) := by decide +kernel
theorem dbn27 : decode jdk_2097_method_122_code 27 = .ok (.iload_n 3, 1) := by decide +kernel
theorem dbn28 : decode jdk_2097_method_122_code 28 = .ok (.iload 5, 2) := by decide +kernel
theorem dbn30 : decode jdk_2097_method_122_code 30 = .ok (.if_icmp .le 5, 3) := by decide +kernel
theorem dbn33 : decode jdk_2097_method_122_code 33 = .ok (.iconst 1, 1) := by decide +kernel
theorem dbn34 : decode jdk_2097_method_122_code 34 = .ok (.ireturn, 1) := by decide +kernel
theorem dbn35 : decode jdk_2097_method_122_code 35 = .ok (.iconst 0, 1) := by decide +kernel
theorem dbn36 : decode jdk_2097_method_122_code 36 = .ok (.istore 6, 2) := by decide +kernel
theorem dbn38 : decode jdk_2097_method_122_code 38 = .ok (.iload 6, 2) := by decide +kernel
theorem dbn40 : decode jdk_2097_method_122_code 40 = .ok (.iload_n 3, 1) := by decide +kernel
theorem dbn41 : decode jdk_2097_method_122_code 41 = .ok (.if_icmp .ge 53, 3) := by decide +kernel
theorem dbn44 : decode jdk_2097_method_122_code 44 = .ok (.aload_n 2, 1) := by decide +kernel
theorem dbn45 : decode jdk_2097_method_122_code 45 = .ok (.iload 6, 2) := by decide +kernel
theorem dbn47 : decode jdk_2097_method_122_code 47 = .ok (.iaload, 1) := by decide +kernel
theorem dbn48 : decode jdk_2097_method_122_code 48 = .ok (.istore 7, 2) := by decide +kernel
theorem dbn50 : decode jdk_2097_method_122_code 50 = .ok (.aload 4, 2) := by decide +kernel
theorem dbn52 : decode jdk_2097_method_122_code 52 = .ok (.iload 6, 2) := by decide +kernel
theorem dbn54 : decode jdk_2097_method_122_code 54 = .ok (.iaload, 1) := by decide +kernel
theorem dbn55 : decode jdk_2097_method_122_code 55 = .ok (.istore 8, 2) := by decide +kernel
theorem dbn57 : decode jdk_2097_method_122_code 57 = .ok (.iload 7, 2) := by decide +kernel
theorem dbn59 : decode jdk_2097_method_122_code 59 = .ok (.iload 8, 2) := by decide +kernel
theorem dbn61 : decode jdk_2097_method_122_code 61 = .ok (.if_icmp .eq 27, 3) := by decide +kernel
theorem dbn64 : decode jdk_2097_method_122_code 64 = .ok (.iload 7, 2) := by decide +kernel
theorem dbn66 : decode jdk_2097_method_122_code 66 = .ok (.i2l, 1) := by decide +kernel
theorem dbn67 : decode jdk_2097_method_122_code 67 = .ok (.ldc2_w 130, 3) := by decide +kernel
theorem dbn70 : decode jdk_2097_method_122_code 70 = .ok (.land, 1) := by decide +kernel
theorem dbn71 : decode jdk_2097_method_122_code 71 = .ok (.iload 8, 2) := by decide +kernel
theorem dbn73 : decode jdk_2097_method_122_code 73 = .ok (.i2l, 1) := by decide +kernel
theorem dbn74 : decode jdk_2097_method_122_code 74 = .ok (.ldc2_w 130, 3) := by decide +kernel
theorem dbn77 : decode jdk_2097_method_122_code 77 = .ok (.land, 1) := by decide +kernel
theorem dbn78 : decode jdk_2097_method_122_code 78 = .ok (.lcmp, 1) := by decide +kernel
theorem dbn79 : decode jdk_2097_method_122_code 79 = .ok (.ifCond .ge 7, 3) := by decide +kernel
theorem dbn82 : decode jdk_2097_method_122_code 82 = .ok (.iconst (-1), 1) := by decide +kernel
theorem dbn83 : decode jdk_2097_method_122_code 83 = .ok (.goto 4, 3) := by decide +kernel
theorem dbn86 : decode jdk_2097_method_122_code 86 = .ok (.iconst 1, 1) := by decide +kernel
theorem dbn87 : decode jdk_2097_method_122_code 87 = .ok (.ireturn, 1) := by decide +kernel
theorem dbn88 : decode jdk_2097_method_122_code 88 = .ok (.iinc 6 1, 3) := by decide +kernel
theorem dbn91 : decode jdk_2097_method_122_code 91 = .ok (.goto (-53), 3) := by decide +kernel
theorem dbn94 : decode jdk_2097_method_122_code 94 = .ok (.iconst 0, 1) := by decide +kernel
theorem dbn95 : decode jdk_2097_method_122_code 95 = .ok (.ireturn, 1) := by decide +kernel
theorem dbo0 : decode jdk_2097_method_121_code 0 = .ok (.aload_n 0, 1) := by decide +kernel
theorem dbo1 : decode jdk_2097_method_121_code 1 = .ok (.getfield 32, 3) := by decide +kernel
theorem dbo4 : decode jdk_2097_method_121_code 4 = .ok (.aload_n 1, 1) := by decide +kernel
theorem dbo5 : decode jdk_2097_method_121_code 5 = .ok (.getfield 32, 3) := by decide +kernel
theorem dbo8 : decode jdk_2097_method_121_code 8 = .ok (.if_icmp .ne 50, 3) := by decide +kernel
theorem dbo11 : decode jdk_2097_method_121_code 11 = .ok (.aload_n 0, 1) := by decide +kernel
theorem dbo12 : decode jdk_2097_method_121_code 12 = .ok (.getfield 32, 3) := by decide +kernel
theorem dbo15 : decode jdk_2097_method_121_code 15 = .ok (.lookupswitch 41 #[((-1), 33), (1, 25)], 25) := by decide +kernel
theorem dbo40 : decode jdk_2097_method_121_code 40 = .ok (.aload_n 0, 1) := by decide +kernel
theorem dbo41 : decode jdk_2097_method_121_code 41 = .ok (.aload_n 1, 1) := by decide +kernel
theorem dbo42 : decode jdk_2097_method_121_code 42 = .ok (.invokevirtual 365, 3) := by decide +kernel
theorem dbo45 : decode jdk_2097_method_121_code 45 = .ok (.goto 12, 3) := by decide +kernel
theorem dbo48 : decode jdk_2097_method_121_code 48 = .ok (.aload_n 1, 1) := by decide +kernel
theorem dbo49 : decode jdk_2097_method_121_code 49 = .ok (.aload_n 0, 1) := by decide +kernel
theorem dbo50 : decode jdk_2097_method_121_code 50 = .ok (.invokevirtual 365, 3) := by decide +kernel
theorem dbo53 : decode jdk_2097_method_121_code 53 = .ok (.goto 4, 3) := by decide +kernel
theorem dbo56 : decode jdk_2097_method_121_code 56 = .ok (.iconst 0, 1) := by decide +kernel
theorem dbo57 : decode jdk_2097_method_121_code 57 = .ok (.ireturn, 1) := by decide +kernel
theorem dbo58 : decode jdk_2097_method_121_code 58 = .ok (.aload_n 0, 1) := by decide +kernel
theorem dbo59 : decode jdk_2097_method_121_code 59 = .ok (.getfield 32, 3) := by decide +kernel
theorem dbo62 : decode jdk_2097_method_121_code 62 = .ok (.aload_n 1, 1) := by decide +kernel
theorem dbo63 : decode jdk_2097_method_121_code 63 = .ok (.getfield 32, 3) := by decide +kernel
theorem dbo66 : decode jdk_2097_method_121_code 66 = .ok (.if_icmp .le 7, 3) := by decide +kernel
theorem dbo69 : decode jdk_2097_method_121_code 69 = .ok (.iconst 1, 1) := by decide +kernel
theorem dbo70 : decode jdk_2097_method_121_code 70 = .ok (.goto 4, 3) := by decide +kernel
theorem dbo73 : decode jdk_2097_method_121_code 73 = .ok (.iconst (-1), 1) := by decide +kernel
theorem dbo74 : decode jdk_2097_method_121_code 74 = .ok (.ireturn, 1) := by decide +kernel
theorem dbp0 : decode prog_5_method_23_code 0 = .ok (.aload_n 1, 1) := by decide +kernel
theorem dbp1 : decode prog_5_method_23_code 1 = .ok (.instanceof 8, 3) := by decide +kernel
theorem dbp4 : decode prog_5_method_23_code 4 = .ok (.ifCond .eq 41, 3) := by decide +kernel
theorem dbp7 : decode prog_5_method_23_code 7 = .ok (.aload_n 0, 1) := by decide +kernel
theorem dbp8 : decode prog_5_method_23_code 8 = .ok (.getfield 7, 3) := by decide +kernel
theorem dbp11 : decode prog_5_method_23_code 11 = .ok (.aload_n 1, 1) := by decide +kernel
theorem dbp12 : decode prog_5_method_23_code 12 = .ok (.checkcast 8, 3) := by decide +kernel
theorem dbp15 : decode prog_5_method_23_code 15 = .ok (.getfield 7, 3) := by decide +kernel
theorem dbp18 : decode prog_5_method_23_code 18 = .ok (.invokevirtual 244, 3) := by decide +kernel
theorem dbp21 : decode prog_5_method_23_code 21 = .ok (.ifCond .eq 24, 3) := by decide +kernel
theorem dbp24 : decode prog_5_method_23_code 24 = .ok (.aload_n 0, 1) := by decide +kernel
theorem dbp25 : decode prog_5_method_23_code 25 = .ok (.getfield 13, 3) := by decide +kernel
theorem dbp28 : decode prog_5_method_23_code 28 = .ok (.aload_n 1, 1) := by decide +kernel
theorem dbp29 : decode prog_5_method_23_code 29 = .ok (.checkcast 8, 3) := by decide +kernel
theorem dbp32 : decode prog_5_method_23_code 32 = .ok (.getfield 13, 3) := by decide +kernel
theorem dbp35 : decode prog_5_method_23_code 35 = .ok (.invokevirtual 244, 3) := by decide +kernel
theorem dbp38 : decode prog_5_method_23_code 38 = .ok (.ifCond .eq 7, 3) := by decide +kernel
theorem dbp41 : decode prog_5_method_23_code 41 = .ok (.iconst 1, 1) := by decide +kernel
theorem dbp42 : decode prog_5_method_23_code 42 = .ok (.goto 4, 3) := by decide +kernel
theorem dbp45 : decode prog_5_method_23_code 45 = .ok (.iconst 0, 1) := by decide +kernel
theorem dbp46 : decode prog_5_method_23_code 46 = .ok (.ireturn, 1) := by decide +kernel
theorem dbq0 : decode prog_5_method_22_code 0 = .ok (.aload_n 0, 1) := by decide +kernel
theorem dbq1 : decode prog_5_method_22_code 1 = .ok (.getfield 7, 3) := by decide +kernel
theorem dbq4 : decode prog_5_method_22_code 4 = .ok (.aload_n 1, 1) := by decide +kernel
theorem dbq5 : decode prog_5_method_22_code 5 = .ok (.getfield 13, 3) := by decide +kernel
theorem dbq8 : decode prog_5_method_22_code 8 = .ok (.invokevirtual 89, 3) := by decide +kernel
theorem dbq11 : decode prog_5_method_22_code 11 = .ok (.aload_n 1, 1) := by decide +kernel
theorem dbq12 : decode prog_5_method_22_code 12 = .ok (.getfield 7, 3) := by decide +kernel
theorem dbq15 : decode prog_5_method_22_code 15 = .ok (.aload_n 0, 1) := by decide +kernel
theorem dbq16 : decode prog_5_method_22_code 16 = .ok (.getfield 13, 3) := by decide +kernel
theorem dbq19 : decode prog_5_method_22_code 19 = .ok (.invokevirtual 89, 3) := by decide +kernel
theorem dbq22 : decode prog_5_method_22_code 22 = .ok (.invokevirtual 241, 3) := by decide +kernel
theorem dbq25 : decode prog_5_method_22_code 25 = .ok (.ireturn, 1) := by decide +kernel
theorem dbr0 : decode prog_5_method_11_code 0 = .ok (.aload_n 0, 1) := by decide +kernel
theorem dbr1 : decode prog_5_method_11_code 1 = .ok (.getfield 7, 3) := by decide +kernel
theorem dbr4 : decode prog_5_method_11_code 4 = .ok (.invokevirtual 32, 3) := by decide +kernel
theorem dbr7 : decode prog_5_method_11_code 7 = .ok (.ireturn, 1) := by decide +kernel
theorem pd_0 : parseMethodDescriptor "()V" = some ⟨[], none⟩ := by decide +kernel
theorem pd_1 : parseMethodDescriptor "([II)[I" = some ⟨[(.array .int), .int], some (.array .int)⟩ := by decide +kernel
theorem pd_2 : parseMethodDescriptor "(I)I" = some ⟨[.int], some .int⟩ := by decide +kernel
theorem pd_3 : parseMethodDescriptor "(I)V" = some ⟨[.int], none⟩ := by decide +kernel
theorem pd_4 : parseMethodDescriptor "(Ljava/math/MutableBigInteger;)I" = some ⟨[(.object "java/math/MutableBigInteger")], some .int⟩ := by decide +kernel
theorem pd_5 : parseMethodDescriptor "(II)I" = some ⟨[.int, .int], some .int⟩ := by decide +kernel
theorem pd_6 : parseMethodDescriptor "()I" = some ⟨[], some .int⟩ := by decide +kernel
theorem pd_7 : parseMethodDescriptor "(Ljava/math/MutableBigInteger;)Ljava/math/MutableBigInteger;" = some ⟨[(.object "java/math/MutableBigInteger")], some (.object "java/math/MutableBigInteger")⟩ := by decide +kernel
theorem pd_8 : parseMethodDescriptor "()[I" = some ⟨[], some (.array .int)⟩ := by decide +kernel
theorem pd_9 : parseMethodDescriptor "([II)V" = some ⟨[(.array .int), .int], none⟩ := by decide +kernel
theorem pd_10 : parseMethodDescriptor "()Ljava/math/BigInteger;" = some ⟨[], some (.object "java/math/BigInteger")⟩ := by decide +kernel
theorem pd_11 : parseMethodDescriptor "(Ljava/math/BigInteger;)V" = some ⟨[(.object "java/math/BigInteger")], none⟩ := by decide +kernel
theorem pd_12 : parseMethodDescriptor "(I)Ljava/math/BigInteger;" = some ⟨[.int], some (.object "java/math/BigInteger")⟩ := by decide +kernel
theorem pd_13 : parseMethodDescriptor "(ILjava/math/MutableBigInteger;)I" = some ⟨[.int, (.object "java/math/MutableBigInteger")], some .int⟩ := by decide +kernel
theorem pd_14 : parseMethodDescriptor "([I)V" = some ⟨[(.array .int)], none⟩ := by decide +kernel
theorem pd_15 : parseMethodDescriptor "(Ljava/math/MutableBigInteger;Ljava/math/MutableBigInteger;Z)Ljava/math/MutableBigInteger;" = some ⟨[(.object "java/math/MutableBigInteger"), (.object "java/math/MutableBigInteger"), .boolean], some (.object "java/math/MutableBigInteger")⟩ := by decide +kernel
theorem pd_16 : parseMethodDescriptor "(Ljava/math/BigInteger;)Ljava/math/BigInteger;" = some ⟨[(.object "java/math/BigInteger")], some (.object "java/math/BigInteger")⟩ := by decide +kernel
theorem pd_17 : parseMethodDescriptor "(J)V" = some ⟨[.long], none⟩ := by decide +kernel
theorem pd_18 : parseMethodDescriptor "(J)Ljava/math/BigInteger;" = some ⟨[.long], some (.object "java/math/BigInteger")⟩ := by decide +kernel
theorem pd_19 : parseMethodDescriptor "(Ljava/math/BigInteger;Ljava/math/BigInteger;)V" = some ⟨[(.object "java/math/BigInteger"), (.object "java/math/BigInteger")], none⟩ := by decide +kernel
theorem pd_20 : parseMethodDescriptor "(Ljava/math/BigInteger;Ljava/math/BigInteger;)Lcom/example/varuna/varuna/Rational;" = some ⟨[(.object "java/math/BigInteger"), (.object "java/math/BigInteger")], some (.object "com/example/varuna/varuna/Rational")⟩ := by decide +kernel
theorem pd_21 : parseMethodDescriptor "(Ljava/math/BigInteger;ZZI)Ljava/math/BigInteger;" = some ⟨[(.object "java/math/BigInteger"), .boolean, .boolean, .int], some (.object "java/math/BigInteger")⟩ := by decide +kernel
theorem pd_22 : parseMethodDescriptor "([III)Ljava/math/BigInteger;" = some ⟨[(.array .int), .int, .int], some (.object "java/math/BigInteger")⟩ := by decide +kernel
theorem pd_23 : parseMethodDescriptor "(Ljava/math/BigInteger;)I" = some ⟨[(.object "java/math/BigInteger")], some .int⟩ := by decide +kernel
theorem pd_24 : parseMethodDescriptor "(Ljava/lang/Object;)Z" = some ⟨[(.object "java/lang/Object")], some .boolean⟩ := by decide +kernel
theorem pd_25 : parseMethodDescriptor "(J)Lcom/example/varuna/varuna/Rational;" = some ⟨[.long], some (.object "com/example/varuna/varuna/Rational")⟩ := by decide +kernel
theorem pd_26 : parseMethodDescriptor "(JJ)Lcom/example/varuna/varuna/Rational;" = some ⟨[.long, .long], some (.object "com/example/varuna/varuna/Rational")⟩ := by decide +kernel
theorem pd_27 : parseMethodDescriptor "(Lcom/example/varuna/varuna/Rational;)I" = some ⟨[(.object "com/example/varuna/varuna/Rational")], some .int⟩ := by decide +kernel
def un (x : Int32) : Nat := x.toBitVec.toNat
theorem un_lt (x : Int32) : un x < 4294967296 := x.toBitVec.isLt
theorem un_int (x : Int32) : (un x : Int) = x.toInt % 4294967296 := by
  have h : x.toInt = Int.bmod (un x : Int) (2 ^ 32) := BitVec.toInt_eq_toNat_bmod x.toBitVec
  have q := un_lt x
  have e := Int.bmod_emod (x := (un x : Int)) (m := 2 ^ 32)
  rw [h]; omega
theorem un_inj {x y : Int32} (h : un x = un y) : x = y := Int32.toBitVec_inj.mp (BitVec.eq_of_toNat_eq h)
theorem un0 {x : Int32} (h : un x = 0) : x = 0 := un_inj h
theorem un_pos {x : Int32} (h : x ≠ 0) : 0 < un x := Nat.pos_of_ne_zero fun q => h (un0 q)
theorem un_ne {x : Int32} (h : un x ≠ 0) : ¬ x = 0 := fun q => h (by rw [q]; rfl)
theorem un_ush (x : Int32) (z : Nat) (hz : z < 32) : un ((x.toUInt32 >>> (Int32.ofNat z &&& 31).toUInt32).toInt32) = un x / 2 ^ z := by
  have e : ∀ z : Fin 32, ((Int32.ofNat z.1 &&& 31).toUInt32.toBitVec % 32#32).toNat = z.1 := by decide
  show (x.toBitVec >>> ((Int32.ofNat z &&& 31).toUInt32.toBitVec % 32#32)).toNat = _
  rw [BitVec.ushiftRight_eq', BitVec.toNat_ushiftRight, e ⟨z, hz⟩, Nat.shiftRight_eq_div_pow]; rfl
theorem or_odd {a b : Int32} (h : un b % 2 = 1) : un (a ||| b) % 2 = 1 := by
  have e : un (a ||| b) = un a ||| un b := by
    show ((a ||| b).toBitVec).toNat = _
    rw [Int32.toBitVec_or, BitVec.toNat_or]; rfl
  rw [e]
  have q := Nat.or_mod_two_pow (a := un a) (b := un b) (n := 1)
  rw [Nat.pow_one] at q
  rw [q, h]
  rcases Nat.mod_two_eq_zero_or_one (un a) with r | r <;> rw [r] <;> rfl
theorem un_sub1 {y : Int32} (h : un y ≠ 0) : un (y - 1) = un y - 1 := by
  have h1 := un_int (y - 1)
  have h2 := un_int y
  have h3 := c_isub y 1
  have e1 : (1 : Int32).toInt = 1 := rfl
  have q1 := un_lt y
  have q2 := un_lt (y - 1)
  rw [e1] at h3
  omega
/-- x + MIN, seen as unsigned -/
theorem addmin (x : Int32) : (x + (-2147483648 : Int32)).toInt = (un x : Int) - 2147483648 := by
  have h1 := un_int x
  have h2 := c_iadd x (-2147483648)
  have e1 : (-2147483648 : Int32).toInt = -2147483648 := rfl
  have r1 := Int32.toInt_lt (x + (-2147483648 : Int32))
  have r2 := Int32.le_toInt (x + (-2147483648 : Int32))
  have q1 := un_lt x
  rw [e1] at h2
  omega
theorem ucmp (x y : Int32) : x + (-2147483648 : Int32) < y + (-2147483648 : Int32) ↔ un x < un y := by
  rw [Int32.lt_iff_toInt_lt, addmin, addmin]; omega
theorem key {a : Int32} (c w : Int32) (k : Nat) (hk : k ≤ 30) (hc : c = Int32.ofNat (31 - k)) (h1 : 1 ≤ w.toInt) (h3 : w.toInt ≤ 3) (hw : w.toInt = a.toInt / (2 ^ k : Nat)) : ∃ n : Nat, n ≤ 31 ∧ c - Jvm.Free.XT.ushr w 1 = Int32.ofNat n ∧ ((2 ^ (31 - n) : Nat) : Int) ≤ a.toInt ∧ a.toInt < ((2 ^ (32 - n) : Nat) : Int) := by
  have s : (Jvm.Free.XT.ushr w 1).toInt = (w.toInt % 4294967296) / (2 ^ 1 : Nat) := c_iushr w 1 1 (by decide) (by decide)
  have hp := Nat.two_pow_pos k
  have e := Int.mul_ediv_add_emod a.toInt ((2 ^ k : Nat) : Int)
  have r0 := Int.emod_nonneg a.toInt (show ((2 ^ k : Nat) : Int) ≠ 0 by omega)
  have r1 := Int.emod_lt_of_pos a.toInt (show (0 : Int) < ((2 ^ k : Nat) : Int) by omega)
  rw [← hw] at e
  have p1 : 2 ^ (k + 1) = 2 * 2 ^ k := by rw [Nat.pow_succ, Nat.mul_comm]
  have p2 : 2 ^ (k + 2) = 4 * 2 ^ k := by rw [Nat.pow_succ, p1]; omega
  have d0 : ∀ k : Fin 31, Int32.ofNat (31 - k.1) - 0 = Int32.ofNat (31 - k.1) := by decide
  have d1 : ∀ k : Fin 31, Int32.ofNat (31 - k.1) - 1 = Int32.ofNat (30 - k.1) := by decide
  have hq : w.toInt = 1 ∨ w.toInt = 2 ∨ w.toInt = 3 := by omega
  rcases hq with q | q | q
  · refine ⟨31 - k, by omega, ?_, ?_, ?_⟩
    · rw [show Jvm.Free.XT.ushr w 1 = 0 from Int32.toInt_inj.mp (by rw [s, q]; rfl), hc]; exact d0 ⟨k, by omega⟩
    · rw [show 31 - (31 - k) = k by omega]; rw [q] at e; omega
    · rw [show 32 - (31 - k) = k + 1 by omega, p1]; rw [q] at e; omega
  · refine ⟨30 - k, by omega, ?_, ?_, ?_⟩
    · rw [show Jvm.Free.XT.ushr w 1 = 1 from Int32.toInt_inj.mp (by rw [s, q]; rfl), hc]; exact d1 ⟨k, by omega⟩
    · rw [show 31 - (30 - k) = k + 1 by omega, p1]; rw [q] at e; omega
    · rw [show 32 - (30 - k) = k + 2 by omega, p2]; rw [q] at e; omega
  · refine ⟨30 - k, by omega, ?_, ?_, ?_⟩
    · rw [show Jvm.Free.XT.ushr w 1 = 1 from Int32.toInt_inj.mp (by rw [s, q]; rfl), hc]; exact d1 ⟨k, by omega⟩
    · rw [show 31 - (30 - k) = k + 1 by omega, p1]; rw [q] at e; omega
    · rw [show 32 - (30 - k) = k + 2 by omega, p2]; rw [q] at e; omega
theorem own_shi (x : Int32) (k : Nat) (q : Int32) (hk : q.toBitVec.toNat % 32 = k) (h0 : 0 < k) (hx : 0 ≤ x.toInt) : (Jvm.Free.XT.ushr x q).toInt = x.toInt / (2 ^ k : Nat) ∧ 0 ≤ (Jvm.Free.XT.ushr x q).toInt := by
  have s : (Jvm.Free.XT.ushr x q).toInt = (x.toInt % 4294967296) / (2 ^ k : Nat) := c_iushr x q k hk h0
  have r1 := Int32.toInt_lt x
  rw [Int.emod_eq_of_lt hx (by omega)] at s
  exact ⟨s, by rw [s]; exact Int.ediv_nonneg hx (Int.natCast_nonneg _)⟩
theorem nlz_pos {a : Int32} (h : 0 < a) : ∃ n : Nat, n ≤ 31 ∧ Jvm.Free.JP.Integer_numberOfLeadingZeros_I.val a = Int32.ofNat n ∧ ((2 ^ (31 - n) : Nat) : Int) ≤ a.toInt ∧ a.toInt < ((2 ^ (32 - n) : Nat) : Int) := by
  have ha : 0 < a.toInt := by rw [Int32.lt_iff_toInt_lt] at h; exact h
  have hr := Int32.toInt_lt a
  have t2 := own_shi a 2 2 (by decide) (by decide) (by omega)
  have t4 := own_shi a 4 4 (by decide) (by decide) (by omega)
  have t8 := own_shi a 8 8 (by decide) (by decide) (by omega)
  have t16 := own_shi a 16 16 (by decide) (by decide) (by omega)
  have t4_2 := own_shi (Jvm.Free.XT.ushr a 4) 2 2 (by decide) (by decide) t4.2
  have t8_2 := own_shi (Jvm.Free.XT.ushr a 8) 2 2 (by decide) (by decide) t8.2
  have t8_4 := own_shi (Jvm.Free.XT.ushr a 8) 4 4 (by decide) (by decide) t8.2
  have t8_4_2 := own_shi (Jvm.Free.XT.ushr (Jvm.Free.XT.ushr a 8) 4) 2 2 (by decide) (by decide) t8_4.2
  have t16_2 := own_shi (Jvm.Free.XT.ushr a 16) 2 2 (by decide) (by decide) t16.2
  have t16_4 := own_shi (Jvm.Free.XT.ushr a 16) 4 4 (by decide) (by decide) t16.2
  have t16_4_2 := own_shi (Jvm.Free.XT.ushr (Jvm.Free.XT.ushr a 16) 4) 2 2 (by decide) (by decide) t16_4.2
  have t16_8 := own_shi (Jvm.Free.XT.ushr a 16) 8 8 (by decide) (by decide) t16.2
  have t16_8_2 := own_shi (Jvm.Free.XT.ushr (Jvm.Free.XT.ushr a 16) 8) 2 2 (by decide) (by decide) t16_8.2
  have t16_8_4 := own_shi (Jvm.Free.XT.ushr (Jvm.Free.XT.ushr a 16) 8) 4 4 (by decide) (by decide) t16_8.2
  have t16_8_4_2 := own_shi (Jvm.Free.XT.ushr (Jvm.Free.XT.ushr (Jvm.Free.XT.ushr a 16) 8) 4) 2 2 (by decide) (by decide) t16_8_4.2
  have l4 : (4 : Int32).toInt = 4 := rfl
  have l16 : (16 : Int32).toInt = 16 := rfl
  have l256 : (256 : Int32).toInt = 256 := rfl
  have l65536 : (65536 : Int32).toInt = 65536 := rfl
  delta Jvm.Free.JP.Integer_numberOfLeadingZeros_I.val
  rw [if_pos h]
  simp only [Int32.lt_iff_toInt_lt, l4, l16, l256, l65536, t2.1, t4.1, t8.1, t16.1, t4_2.1, t8_2.1, t8_4.1, t8_4_2.1, t16_2.1, t16_4.1, t16_4_2.1, t16_8.1, t16_8_2.1, t16_8_4.1, t16_8_4_2.1]
  split
  · split
    · split
      · split
        · exact key _ a 0 (by decide) rfl (by omega) (by omega) (by omega)
        · exact key _ (Jvm.Free.XT.ushr a 2) 2 (by decide) rfl (by omega) (by omega) (by omega)
      · split
        · exact key _ (Jvm.Free.XT.ushr a 4) 4 (by decide) rfl (by omega) (by omega) (by omega)
        · exact key _ (Jvm.Free.XT.ushr (Jvm.Free.XT.ushr a 4) 2) 6 (by decide) rfl (by omega) (by omega) (by omega)
    · split
      · split
        · exact key _ (Jvm.Free.XT.ushr a 8) 8 (by decide) rfl (by omega) (by omega) (by omega)
        · exact key _ (Jvm.Free.XT.ushr (Jvm.Free.XT.ushr a 8) 2) 10 (by decide) rfl (by omega) (by omega) (by omega)
      · split
        · exact key _ (Jvm.Free.XT.ushr (Jvm.Free.XT.ushr a 8) 4) 12 (by decide) rfl (by omega) (by omega) (by omega)
        · exact key _ (Jvm.Free.XT.ushr (Jvm.Free.XT.ushr (Jvm.Free.XT.ushr a 8) 4) 2) 14 (by decide) rfl (by omega) (by omega) (by omega)
  · split
    · split
      · split
        · exact key _ (Jvm.Free.XT.ushr a 16) 16 (by decide) rfl (by omega) (by omega) (by omega)
        · exact key _ (Jvm.Free.XT.ushr (Jvm.Free.XT.ushr a 16) 2) 18 (by decide) rfl (by omega) (by omega) (by omega)
      · split
        · exact key _ (Jvm.Free.XT.ushr (Jvm.Free.XT.ushr a 16) 4) 20 (by decide) rfl (by omega) (by omega) (by omega)
        · exact key _ (Jvm.Free.XT.ushr (Jvm.Free.XT.ushr (Jvm.Free.XT.ushr a 16) 4) 2) 22 (by decide) rfl (by omega) (by omega) (by omega)
    · split
      · split
        · exact key _ (Jvm.Free.XT.ushr (Jvm.Free.XT.ushr a 16) 8) 24 (by decide) rfl (by omega) (by omega) (by omega)
        · exact key _ (Jvm.Free.XT.ushr (Jvm.Free.XT.ushr (Jvm.Free.XT.ushr a 16) 8) 2) 26 (by decide) rfl (by omega) (by omega) (by omega)
      · split
        · exact key _ (Jvm.Free.XT.ushr (Jvm.Free.XT.ushr (Jvm.Free.XT.ushr a 16) 8) 4) 28 (by decide) rfl (by omega) (by omega) (by omega)
        · exact key _ (Jvm.Free.XT.ushr (Jvm.Free.XT.ushr (Jvm.Free.XT.ushr (Jvm.Free.XT.ushr a 16) 8) 4) 2) 30 (by decide) rfl (by omega) (by omega) (by omega)
theorem ntz_ex (x : Int32) (hx : x ≠ 0) : ∃ z : Nat, z < 32 ∧ Jvm.Free.JM.Low (un x) z ∧ Jvm.Free.JP.Integer_numberOfTrailingZeros_I.val x = Int32.ofNat z := by
  obtain ⟨t, ht⟩ := Jvm.Free.JM.low_ex (un x) (by have := un_pos hx; omega)
  exact ⟨t, ht.lt x.toBitVec.isLt, ht, Jvm.Free.JM.ntz32 ht⟩
theorem nlz_spec (x : Int32) (hx : x ≠ 0) : ∃ b : Nat, 1 ≤ b ∧ b ≤ 32 ∧ (32 : Int32) - Jvm.Free.JP.Integer_numberOfLeadingZeros_I.val x = Int32.ofNat b ∧ 2 ^ (b - 1) ≤ un x ∧ un x < 2 ^ b := by
  have hu := un_int x
  have d : ∀ n : Fin 32, (32 : Int32) - Int32.ofNat n.1 = Int32.ofNat (32 - n.1) := by decide
  by_cases h : 0 < x
  · obtain ⟨n, h1, h2, h3, h4⟩ := nlz_pos h
    have hr := Int32.toInt_lt x
    have ha : 0 < x.toInt := by rw [Int32.lt_iff_toInt_lt] at h; exact h
    refine ⟨32 - n, by omega, by omega, by rw [h2]; exact d ⟨n, by omega⟩, ?_, ?_⟩
    · rw [show 32 - n - 1 = 31 - n by omega]; omega
    · omega
  · have hv : Jvm.Free.JP.Integer_numberOfLeadingZeros_I.val x = 0 := by
      delta Jvm.Free.JP.Integer_numberOfLeadingZeros_I.val
      rw [if_neg h, if_neg hx]
    have ha : x.toInt < 0 := by
      rw [Int32.lt_iff_toInt_lt] at h
      have e0 : (0 : Int32).toInt = 0 := rfl
      have : x.toInt ≠ 0 := fun q => hx (Int32.toInt_inj.mp q)
      omega
    have hr := Int32.le_toInt x
    exact ⟨32, by decide, by decide, by rw [hv]; rfl, by show 2147483648 ≤ un x; omega, un_lt x⟩
theorem low_le {n z : Nat} (h : Jvm.Free.JM.Low n z) : 2 ^ z ≤ n := by
  have hp := Nat.two_pow_pos z
  have e := Nat.div_add_mod n (2 ^ z)
  have q : 1 ≤ n / 2 ^ z := Nat.pos_of_ne_zero fun e => by have := h.2; rw [e] at this; cases this
  have := Nat.mul_le_mul_left (2 ^ z) q
  omega
theorem pow_lt_pow {z b : Nat} (h : 2 ^ z < 2 ^ b) : z < b := (Nat.pow_lt_pow_iff_right (by decide)).mp h
theorem low_lt {n z b : Nat} (h : Jvm.Free.JM.Low n z) (hb : n < 2 ^ b) : z < b := pow_lt_pow (Nat.lt_of_le_of_lt (low_le h) hb)
theorem low_pos {n z : Nat} (h : Jvm.Free.JM.Low n z) (he : n % 2 = 0) : 1 ≤ z := by
  rcases Nat.eq_zero_or_pos z with q | q
  · subst q; have := h.2; rw [Nat.pow_zero, Nat.div_one] at this; omega
  · exact q
theorem low_zero {n z : Nat} (h : Jvm.Free.JM.Low n z) (ho : n % 2 = 1) : z = 0 := by
  rcases Nat.eq_zero_or_pos z with q | q
  · exact q
  · exfalso
    obtain ⟨k, rfl⟩ : ∃ k, z = k + 1 := ⟨z - 1, by omega⟩
    have := h.1
    rw [Nat.pow_succ, Nat.mul_comm] at this
    have q2 : n % 2 = (n % (2 * 2 ^ k)) % 2 := (Nat.mod_mul_right_mod n 2 (2 ^ k)).symm
    omega
theorem low_half {n z : Nat} (hz : 1 ≤ z) (hn : 0 < n) : n / 2 ^ z < n := Nat.div_lt_self hn (by
  have := Nat.pow_le_pow_right (show 0 < 2 by decide) hz; rw [Nat.pow_one] at this; omega)
theorem half_pos {n z b : Nat} (h : 2 ^ (b - 1) ≤ n) (hz : z < b) : n / 2 ^ z ≠ 0 := by
  have h1 : 2 ^ z ≤ 2 ^ (b - 1) := Nat.pow_le_pow_right (by decide) (by omega)
  have := Nat.div_pos (Nat.le_trans h1 h) (Nat.two_pow_pos z)
  omega
theorem z_hi : ∀ z : Fin 32, ((Int32.ofNat z.1).toUInt32 >>> ((5 : Int32) &&& 31).toUInt32).toInt32 = 0 := by decide
theorem z_lo : ∀ z : Fin 32, (Int32.ofNat z.1) &&& 31 = Int32.ofNat z.1 := by decide
theorem z_hi2 : ∀ z : Fin 32, ((Int32.ofNat (32 + z.1)).toUInt32 >>> ((5 : Int32) &&& 31).toUInt32).toInt32 = 1 := by decide
theorem z_lo2 : ∀ z : Fin 32, (Int32.ofNat (32 + z.1)) &&& 31 = Int32.ofNat z.1 := by decide
theorem z_sub : ∀ z : Fin 32, (32 : Int32) - ((32 : Int32) - Int32.ofNat z.1) = Int32.ofNat z.1 := by decide
theorem z_lt : ∀ z : Fin 32, ∀ b : Fin 33, (Int32.ofNat z.1 < Int32.ofNat b.1 ↔ z.1 < b.1) := by decide
theorem z_nn : ∀ z : Fin 65, ¬ (Int32.ofNat z.1 < 0) := by decide
theorem z_0 : ∀ z : Fin 65, Int32.ofNat z.1 = 0 → z.1 = 0 := by decide
abbrev msk (y : Int32) : Int64 := y.toInt64 &&& (4294967295 : Int64)
theorem msk_int (y : Int32) : (msk y).toInt = un y := by
  have h := c_maskL y.toInt64 4294967295 32 (by decide) (by decide)
  have e := un_int y
  rw [c_i2l] at h
  show (y.toInt64 &&& (4294967295 : Int64)).toInt = _
  rw [h, e]; rfl
/-- y - 1 as difference has it -/
abbrev dif (y : Int32) : Int64 := (msk y - msk 1) + ((0 : Int64) >>> ((32 : Int32) &&& 0x3f).toInt64)
theorem dif_int {y : Int32} (h : un y ≠ 0) : (dif y).toInt = un y - 1 := by
  have h1 := c_ladd (msk y - msk 1) ((0 : Int64) >>> ((32 : Int32) &&& 0x3f).toInt64)
  have h2 := c_lsub (msk y) (msk 1)
  have e0 : ((0 : Int64) >>> ((32 : Int32) &&& 0x3f).toInt64).toInt = 0 := by decide
  have e1 := msk_int y
  have e2 : (msk 1).toInt = 1 := by decide
  have q := un_lt y
  have r1 := Int64.toInt_lt ((msk y - msk 1) + ((0 : Int64) >>> ((32 : Int32) &&& 0x3f).toInt64))
  have r2 := Int64.le_toInt ((msk y - msk 1) + ((0 : Int64) >>> ((32 : Int32) &&& 0x3f).toInt64))
  have r3 := Int64.toInt_lt (msk y - msk 1)
  have r4 := Int64.le_toInt (msk y - msk 1)
  show ((msk y - msk 1) + ((0 : Int64) >>> ((32 : Int32) &&& 0x3f).toInt64)).toInt = _
  omega
theorem dif_nn {y : Int32} (h : un y ≠ 0) : ¬ lcmpW (dif y) 0 < 0 := by
  rw [lw_lt, Int64.lt_iff_toInt_lt, dif_int h]
  have e0 : (0 : Int64).toInt = 0 := rfl
  omega
theorem dif_un {y : Int32} (h : un y ≠ 0) : un (dif y).toInt32 = un y - 1 := by
  have h1 := c_l2i (dif y)
  have h2 := un_int (dif y).toInt32
  have h3 := un_lt y
  have h4 := un_lt (dif y).toInt32
  rw [dif_int h] at h1
  omega
theorem gt1 {a : Int32} (ho : un a % 2 = 1) (h : ¬ a = 1) : (1 : Int32) + (-2147483648) < a + (-2147483648) := by
  rw [ucmp]
  have e1 : un 1 = 1 := rfl
  have : un a ≠ 1 := fun q => h (un_inj q)
  omega
/-- signs and magnitudes -/
def sgn (v : Int64) : Int32 := if v < 0 then -1 else if v = 0 then 0 else 1
def hiw (n : Int64) : Int32 := ((n.toUInt64 >>> ((32 : Int32) &&& 0x3f).toInt64.toUInt64).toInt64).toInt32
def mags (n : Int64) : List Int32 := if hiw n = 0 then [n.toInt32] else [hiw n, n.toInt32]
def mag (v : Int64) : List Int32 := if v = 0 then [] else mags (if v < 0 then -v else v)
def mval : List Int32 → Nat
  | [x] => un x
  | [x, y] => un x * 4294967296 + un y
  | _ => 0
def ival (s : Int32) (ms : List Int32) : Int := s.toInt * (mval ms : Nat)
theorem hiw_un (n : Int64) : (un (hiw n) : Int) = (n.toInt % 18446744073709551616) / 4294967296 := by
  have h1 := c_lushr n 32 32 (by decide) (by decide)
  have h2 := c_l2i ((n.toUInt64 >>> ((32 : Int32) &&& 0x3f).toInt64.toUInt64).toInt64)
  have h3 := un_int (hiw n)
  have h4 := un_lt (hiw n)
  have e : (hiw n).toInt = ((n.toUInt64 >>> ((32 : Int32) &&& 0x3f).toInt64.toUInt64).toInt64).toInt32.toInt := rfl
  rw [e] at h3
  have p : ((2 ^ 32 : Nat) : Int) = 4294967296 := rfl
  rw [p] at h1
  omega
theorem lo_un (n : Int64) : (un n.toInt32 : Int) = n.toInt % 4294967296 := by
  have h2 := c_l2i n
  have h3 := un_int n.toInt32
  omega
theorem mags_val (n : Int64) : (mval (mags n) : Int) = n.toInt % 18446744073709551616 := by
  have h1 := hiw_un n
  have h2 := lo_un n
  unfold mags
  split
  · rename_i h
    have e : un (hiw n) = 0 := by rw [h]; rfl
    show (un n.toInt32 : Int) = _
    omega
  · show ((un (hiw n) * 4294967296 + un n.toInt32 : Nat) : Int) = _
    omega
theorem ival_of (v : Int64) : ival (sgn v) (mag v) = v.toInt := by
  have r1 := Int64.toInt_lt v
  have r2 := Int64.le_toInt v
  unfold ival sgn mag
  by_cases h0 : v = 0
  · subst h0; rfl
  · rw [if_neg h0, if_neg h0]
    by_cases h : v < 0
    · rw [if_pos h, if_pos h]
      have q := mags_val (-v)
      have n := c_lneg v
      have r3 := Int64.toInt_lt (-v)
      have r4 := Int64.le_toInt (-v)
      rw [Int64.lt_iff_toInt_lt] at h
      have e0 : (0 : Int64).toInt = 0 := rfl
      have e1 : (-1 : Int32).toInt = -1 := rfl
      rw [e1]; omega
    · rw [if_neg h, if_neg h]
      have q := mags_val v
      rw [Int64.lt_iff_toInt_lt] at h
      have e0 : (0 : Int64).toInt = 0 := rfl
      have e1 : (1 : Int32).toInt = 1 := rfl
      rw [e1]; omega
/-- a sign and a magnitude as BigInteger holds them -/
def Okm (s : Int32) (ms : List Int32) : Prop := (s = 0 ∧ ms = []) ∨ ((s = 1 ∨ s = -1) ∧ ((∃ x, ms = [x] ∧ ¬ x = 0) ∨ ∃ x y, ms = [x, y] ∧ ¬ x = 0))
theorem ok_of (v : Int64) : Okm (sgn v) (mag v) := by
  unfold Okm sgn mag
  by_cases h0 : v = 0
  · subst h0; exact Or.inl ⟨rfl, rfl⟩
  · right
    rw [if_neg h0, if_neg h0]
    refine ⟨?_, ?_⟩
    · by_cases h : v < 0
      · rw [if_pos h]; exact Or.inr rfl
      · rw [if_neg h]; exact Or.inl rfl
    · have key : ∀ n : Int64, n ≠ 0 → (∃ x, mags n = [x] ∧ ¬ x = 0) ∨ ∃ x y, mags n = [x, y] ∧ ¬ x = 0 := fun n hn => by
        unfold mags
        split
        · rename_i h
          refine Or.inl ⟨_, rfl, fun q => hn ?_⟩
          have h1 := hiw_un n
          have h2 := lo_un n
          rw [h] at h1; rw [q] at h2
          have e : un 0 = 0 := rfl
          rw [e] at h1 h2
          have r1 := Int64.toInt_lt n
          have r2 := Int64.le_toInt n
          exact Int64.toInt_inj.mp (by show n.toInt = 0; omega)
        · rename_i h
          exact Or.inr ⟨_, _, rfl, h⟩
      apply key
      by_cases h : v < 0
      · rw [if_pos h]; intro q; apply h0
        have n := c_lneg v
        have r1 := Int64.toInt_lt v
        have r2 := Int64.le_toInt v
        rw [q] at n
        have e0 : (0 : Int64).toInt = 0 := rfl
        exact Int64.toInt_inj.mp (by omega)
      · rw [if_neg h]; exact h0
theorem ok_inj {s s' : Int32} {ms ms' : List Int32} (h : Okm s ms) (h' : Okm s' ms') (e : ival s ms = ival s' ms') : s = s' ∧ ms = ms' := by
  have p0 : mval [] = 0 := rfl
  have e1 : (1 : Int32).toInt = 1 := rfl
  have e2 : (-1 : Int32).toInt = -1 := rfl
  have e3 : (0 : Int32).toInt = 0 := rfl
  have pos : ∀ {s : Int32} {ms : List Int32}, Okm s ms → (s = 0 ∧ ms = []) ∨ ((s = 1 ∨ s = -1) ∧ 0 < mval ms) := fun q => by
    rcases q with q | ⟨q, ⟨x, rfl, hx⟩ | ⟨x, y, rfl, hx⟩⟩
    · exact Or.inl q
    · exact Or.inr ⟨q, un_pos hx⟩
    · exact Or.inr ⟨q, by have := un_pos hx; show 0 < un x * 4294967296 + un y; omega⟩
  have inj : ∀ {ms ms' : List Int32}, ((∃ x, ms = [x] ∧ ¬ x = 0) ∨ ∃ x y, ms = [x, y] ∧ ¬ x = 0) → ((∃ x, ms' = [x] ∧ ¬ x = 0) ∨ ∃ x y, ms' = [x, y] ∧ ¬ x = 0) → mval ms = mval ms' → ms = ms' := fun q q' r => by
    rcases q with ⟨x, rfl, hx⟩ | ⟨x, y, rfl, hx⟩ <;> rcases q' with ⟨x', rfl, hx'⟩ | ⟨x', y', rfl, hx'⟩
    · rw [un_inj (show un x = un x' from r)]
    · have := un_pos hx'; have := un_lt x
      have r' : un x = un x' * 4294967296 + un y' := r
      omega
    · have := un_pos hx; have := un_lt x'
      have r' : un x * 4294967296 + un y = un x' := r
      omega
    · have r' : un x * 4294967296 + un y = un x' * 4294967296 + un y' := r
      have := un_lt y; have := un_lt y'
      rw [un_inj (show un x = un x' by omega), un_inj (show un y = un y' by omega)]
  have k := pos h
  have k' := pos h'
  unfold ival at e
  rcases h with ⟨rfl, rfl⟩ | ⟨hs, hm⟩
  · rcases h' with ⟨rfl, rfl⟩ | ⟨hs', hm'⟩
    · exact ⟨rfl, rfl⟩
    · rcases k' with ⟨q, -⟩ | ⟨-, k'⟩
      · rcases hs' with rfl | rfl <;> cases q
      · rw [p0] at e; rcases hs' with rfl | rfl <;> simp only [e1, e2, e3] at e <;> omega
  · rcases h' with ⟨rfl, rfl⟩ | ⟨hs', hm'⟩
    · rcases k with ⟨q, -⟩ | ⟨-, k⟩
      · rcases hs with rfl | rfl <;> cases q
      · rw [p0] at e; rcases hs with rfl | rfl <;> simp only [e1, e2, e3] at e <;> omega
    · have k1 : 0 < mval ms := by rcases k with ⟨q, -⟩ | ⟨-, k⟩; (rcases hs with rfl | rfl <;> cases q); exact k
      have k2 : 0 < mval ms' := by rcases k' with ⟨q, -⟩ | ⟨-, k⟩; (rcases hs' with rfl | rfl <;> cases q); exact k
      rcases hs with rfl | rfl <;> rcases hs' with rfl | rfl <;> simp only [e1, e2] at e
      · exact ⟨rfl, inj hm hm' (by omega)⟩
      · omega
      · omega
      · exact ⟨rfl, inj hm hm' (by omega)⟩
def cmpI (a b : Int) : Int32 := if a < b then -1 else if a = b then 0 else 1
theorem cmp_lt {a b : Int} (h : a < b) : cmpI a b = -1 := if_pos h
theorem cmp_gt {a b : Int} (h : b < a) : cmpI a b = 1 := by unfold cmpI; rw [if_neg (by omega), if_neg (by omega)]
theorem cmp_eq {a b : Int} (h : a = b) : cmpI a b = 0 := by unfold cmpI; rw [if_neg (by omega), if_pos h]
def BI (Z : State) (h : Heap) (a : Addr) (s : Int32) (ms : List Int32) : Prop := Exa Z h a "java/math/BigInteger" ∧ Fld Z h a "java/math/BigInteger" "signum" "I" (.int s) ∧ ∃ (t : Addr) (k : ClassId), Fld Z h a "java/math/BigInteger" "mag" "[I" (.ref t) ∧ Arv Z h t k .int (Int32.ofNat ms.length) (ms.map Value.int) (.int (0 : Int32))
/-- the same, the array's class by its name -/
def BIc (Z : State) (h : Heap) (a : Addr) (s : Int32) (ms : List Int32) : Prop := Exa Z h a "java/math/BigInteger" ∧ Fld Z h a "java/math/BigInteger" "signum" "I" (.int s) ∧ ∃ (t : Addr) (k : ClassId), Fld Z h a "java/math/BigInteger" "mag" "[I" (.ref t) ∧ Arv Z h t k .int (Int32.ofNat ms.length) (ms.map Value.int) (.int (0 : Int32)) ∧ Exa Z h t "[I"
def MB (Z : State) (h : Heap) (m t : Addr) (o n : Int32) (vs : List Int32) : Prop := Exa Z h m "java/math/MutableBigInteger" ∧ Fld Z h m "java/math/MutableBigInteger" "value" "[I" (.ref t) ∧ Fld Z h m "java/math/MutableBigInteger" "offset" "I" (.int o) ∧ Fld Z h m "java/math/MutableBigInteger" "intLen" "I" (.int n) ∧ ∃ k : ClassId, Arv Z h t k .int (Int32.ofNat vs.length) (vs.map Value.int) (.int (0 : Int32))
def RT (Z : State) (h : Heap) (r : Addr) (s : Int32) (ms : List Int32) : Prop := Exa Z h r "com/example/varuna/varuna/Rational" ∧ ∃ a b : Addr, Fld Z h r "com/example/varuna/varuna/Rational" "numerator" "Ljava/math/BigInteger;" (.ref a) ∧ Fld Z h r "com/example/varuna/varuna/Rational" "denominator" "Ljava/math/BigInteger;" (.ref b) ∧ BI Z h a s ms ∧ BI Z h b 1 [1]
/-- BigInteger's constants -/
def Caches (Z : State) : Prop := (∃ z : Addr, Sta Z Z.heap "java/math/BigInteger" "ZERO" "Ljava/math/BigInteger;" (.ref z) ∧ BIc Z Z.heap z 0 []) ∧ (∃ z : Addr, Sta Z Z.heap "java/math/BigInteger" "ONE" "Ljava/math/BigInteger;" (.ref z) ∧ BIc Z Z.heap z 1 [1]) ∧
  (∃ (p : Addr) (k : ClassId) (vs : List Value), Sta Z Z.heap "java/math/BigInteger" "posConst" "[Ljava/math/BigInteger;" (.ref p) ∧ Arv Z Z.heap p k (.object "java/math/BigInteger") (17 : Int32) vs .null ∧ ∀ i : Nat, 1 ≤ i → i ≤ 16 → ∃ a : Addr, vs.getD i .null = .ref a ∧ BIc Z Z.heap a 1 [Int32.ofNat i]) ∧
  (∃ (p : Addr) (k : ClassId) (vs : List Value), Sta Z Z.heap "java/math/BigInteger" "negConst" "[Ljava/math/BigInteger;" (.ref p) ∧ Arv Z Z.heap p k (.object "java/math/BigInteger") (17 : Int32) vs .null ∧ ∀ i : Nat, 1 ≤ i → i ≤ 16 → ∃ a : Addr, vs.getD i .null = .ref a ∧ BIc Z Z.heap a (-1) [Int32.ofNat i])
section Big
variable {Z : State} {h h' : Heap} {a b m t r : Addr} {s s' o n : Int32} {ms ms' vs : List Int32} {ws : List Addr}
theorem keepExt (K : Keep h h' []) : Ext h h' := ⟨K.1, fun q c r => K.2.1 q c r nin0⟩
theorem BI.ext (F : BI Z h a s ms) (E : Ext h h') : BI Z h' a s ms := by obtain ⟨h1, h2, t, k, h3, h4⟩ := F; exact ⟨h1.ext E, h2.ext E, t, k, h3.ext E, h4.ext E⟩
theorem BIc.ext (F : BIc Z h a s ms) (E : Ext h h') : BIc Z h' a s ms := by obtain ⟨h1, h2, t, k, h3, h4, h5⟩ := F; exact ⟨h1.ext E, h2.ext E, t, k, h3.ext E, h4.ext E, h5.ext E⟩
theorem BIc.bi (F : BIc Z h a s ms) : BI Z h a s ms := by obtain ⟨h1, h2, t, k, h3, h4, -⟩ := F; exact ⟨h1, h2, t, k, h3, h4⟩
theorem BI.lt (F : BI Z h a s ms) : a < h.size := F.1.lt
theorem MB.ext (F : MB Z h m t o n vs) (E : Ext h h') : MB Z h' m t o n vs := by obtain ⟨h1, h2, h3, h4, k, h5⟩ := F; exact ⟨h1.ext E, h2.ext E, h3.ext E, h4.ext E, k, h5.ext E⟩
theorem MB.keep (F : MB Z h m t o n vs) (K : Keep h h' ws) (q1 : m ∉ ws) (q2 : t ∉ ws) : MB Z h' m t o n vs := by obtain ⟨h1, h2, h3, h4, k, h5⟩ := F; exact ⟨h1.keep K, h2.keep K q1, h3.keep K q1, h4.keep K q1, k, h5.keep K q2⟩
theorem MB.lt (F : MB Z h m t o n vs) : m < h.size := F.1.lt
theorem MB.ltA (F : MB Z h m t o n vs) : t < h.size := by obtain ⟨-, -, -, -, k, h5⟩ := F; exact h5.lt
theorem RT.ext (F : RT Z h r s ms) (E : Ext h h') : RT Z h' r s ms := by obtain ⟨h1, a, b, h2, h3, h4, h5⟩ := F; exact ⟨h1.ext E, a, b, h2.ext E, h3.ext E, h4.ext E, h5.ext E⟩
theorem BI.keepR {a0 : Array Value} {kk : Nat} (F : BI Z h a s ms) (K : Keep h h' [r]) (E : Exa Z h r "com/example/varuna/varuna/Rational") (w : (Cond.instantiable "com/example/varuna/varuna/Rational" kk).before a0 Z = true) : BI Z h' a s ms := by
  obtain ⟨h1, h2, t, k, h3, h4⟩ := F
  have q1 : a ≠ r := Exa.ne h1 E (by decide)
  have q2 : t ≠ r := Ne.symm (E.neArv h4 w)
  exact ⟨h1.keep K, h2.keep K (ninS q1 nin0), t, k, h3.keep K (ninS q1 nin0), h4.keep K (ninS q2 nin0)⟩
theorem own_fu {C q d : String} {v w : Value} (F : Fld Z h a C q d v) (G : Fld Z h a C q d w) : v = w := by
  obtain ⟨c, cf, k, i, f, h1, h2, -, -, -, -, h3⟩ := F
  obtain ⟨c', cf', k', i', f', g1, g2, -, -, -, -, g3⟩ := G
  cases h1.symm.trans g1
  cases h2.symm.trans g2
  exact Option.some.inj (h3.symm.trans g3)
theorem own_cl3 : ∀ e, e < 3 → (Int32.ofNat e).toNatClampNeg = e := by decide
theorem own_au {k k' : ClassId} {d d' : Value} (A : Arv Z h t k .int (Int32.ofNat ms.length) (ms.map Value.int) d) (B : Arv Z h t k' .int (Int32.ofNat ms'.length) (ms'.map Value.int) d') (l1 : ms.length < 3) (l2 : ms'.length < 3) : ms = ms' := by
  obtain ⟨c, A1, -, A3, -, A5, -⟩ := A
  obtain ⟨c', B1, -, B3, -, B5, -⟩ := B
  cases A1.1.symm.trans B1.1
  rw [own_cl3 _ l1] at A3
  rw [own_cl3 _ l2] at B3
  apply List.ext_getElem (by omega)
  intro i h1 h2
  have e1 := A5 i (by omega)
  have e2 := B5 i (by omega)
  rw [e1] at e2
  have e3 := Option.some.inj e2
  rw [List.getD_eq_getElem?_getD, List.getD_eq_getElem?_getD, List.getElem?_map, List.getElem?_map, List.getElem?_eq_getElem h1, List.getElem?_eq_getElem h2] at e3
  injection e3
theorem BI.uniq (F : BI Z h a s ms) (G : BI Z h a s' ms') (l1 : ms.length < 3) (l2 : ms'.length < 3) : s = s' ∧ ms = ms' := by
  obtain ⟨-, f2, t, k, f3, f4⟩ := F
  obtain ⟨-, g2, t', k', g3, g4⟩ := G
  have e1 := own_fu f2 g2
  have e2 := own_fu f3 g3
  injection e1 with e1
  injection e2 with e2
  subst e2
  exact ⟨e1, own_au f4 g4 l1 l2⟩
end Big
/-- what getLowestSetBit hands back -/
def LB1 (x lb : Int32) : Prop := ∃ z : Nat, z < 32 ∧ Jvm.Free.JM.Low (un x) z ∧ lb = Int32.ofNat z
def LB2 (x y lb : Int32) : Prop := (y = 0 ∧ ∃ z : Nat, z < 32 ∧ Jvm.Free.JM.Low (un x) z ∧ lb = Int32.ofNat (32 + z)) ∨ (¬ y = 0 ∧ LB1 y lb)
theorem LB1.nn {x lb : Int32} (h : LB1 x lb) : ¬ lb < 0 := by obtain ⟨z, hz, -, rfl⟩ := h; exact z_nn ⟨z, by omega⟩
theorem LB2.nn {x y lb : Int32} (h : LB2 x y lb) : ¬ lb < 0 := by
  rcases h with ⟨-, z, hz, -, rfl⟩ | ⟨-, h⟩
  · exact z_nn ⟨32 + z, by omega⟩
  · exact h.nn
theorem LB1.odd {x lb : Int32} (h : LB1 x lb) (e : lb = 0) : un x % 2 = 1 := by
  obtain ⟨z, hz, hl, rfl⟩ := h
  have := z_0 ⟨z, by omega⟩ e
  have q : z = 0 := this
  subst q; have := hl.2; rw [Nat.pow_zero, Nat.div_one] at this; exact this
theorem LB2.odd {x y lb : Int32} (h : LB2 x y lb) (e : lb = 0) : un y % 2 = 1 := by
  rcases h with ⟨-, z, hz, -, rfl⟩ | ⟨-, h⟩
  · have q : 32 + z = 0 := z_0 ⟨32 + z, by omega⟩ e
    omega
  · exact h.odd e
theorem LB1.zero {x lb : Int32} (h : LB1 x lb) (e : un x % 2 = 1) : lb = 0 := by
  obtain ⟨z, hz, hl, rfl⟩ := h
  rw [low_zero hl e]; rfl
theorem LB1.pos {x lb : Int32} (h : LB1 x lb) (e : ¬ (0 : Int32) = lb) : ∃ z : Nat, 1 ≤ z ∧ z < 32 ∧ Jvm.Free.JM.Low (un x) z ∧ lb = Int32.ofNat z := by
  obtain ⟨z, hz, hl, rfl⟩ := h
  refine ⟨z, ?_, hz, hl, rfl⟩
  rcases Nat.eq_zero_or_pos z with q | q
  · subst q; exact absurd rfl e
  · exact q
theorem LB1.even {x lb : Int32} (h : LB1 x lb) (e : un x % 2 = 0) : ¬ (0 : Int32) = lb := fun q => by
  have := h.odd q.symm; omega
theorem LB2.even {x y lb : Int32} (h : LB2 x y lb) (e : un y % 2 = 0) : ¬ (0 : Int32) = lb := fun q => by
  have := h.odd q.symm; omega
theorem LB2.zero {x y lb : Int32} (h : LB2 x y lb) (e : un y % 2 = 1) : lb = 0 := by
  rcases h with ⟨rfl, -⟩ | ⟨-, h⟩
  · exact absurd e (by decide)
  · exact h.zero e
theorem own_ev {n : Nat} (h : ¬ n % 2 = 1) : n % 2 = 0 := by omega
theorem msk_l2i (x : Int32) : (x.toInt64 &&& (4294967295 : Int64)).toInt32 = x := by
  have h1 := c_l2i (msk x)
  have h2 := msk_int x
  have h3 := un_int x
  have h4 := un_int (msk x).toInt32
  exact un_inj (x := (msk x).toInt32) (by have q1 := un_lt x; have q2 := un_lt (msk x).toInt32; omega)
theorem div1 (x : Int64) : x / 1 = x := by
  apply Int64.toInt_inj.mp
  have := c_ldiv x 1 1 rfl (by decide)
  rcases Int.lt_or_le x.toInt 0 with q | q
  · rw [this.2 q]; omega
  · rw [this.1 q]; omega
theorem rem0 (x : Int32) : ((x.toInt64 &&& (4294967295 : Int64)) - x.toInt64 * 1).toInt32 = 0 := by
  have h1 := c_l2i (msk x - x.toInt64 * 1)
  have h2 := c_lsub (msk x) (x.toInt64 * 1)
  have h3 := c_lmul x.toInt64 1
  have h4 := msk_int x
  have h5 := un_int x
  have h6 := c_i2l x
  have e1 : (1 : Int64).toInt = 1 := rfl
  rw [e1] at h3
  have h7 := un_int ((msk x - x.toInt64 * 1).toInt32)
  have q1 := un_lt ((msk x - x.toInt64 * 1).toInt32)
  exact un0 (x := (msk x - x.toInt64 * 1).toInt32) (by omega)
theorem msk_nn (y : Int32) : ¬ lcmpW (y.toInt64 &&& (4294967295 : Int64)) 0 < 0 := by
  rw [lw_lt, Int64.lt_iff_toInt_lt]
  have h := msk_int y
  have e0 : (0 : Int64).toInt = 0 := rfl
  show ¬ (msk y).toInt < _
  omega
theorem msk_ge {x : Int32} (hx : ¬ x = 0) : ¬ lcmpW (x.toInt64 &&& (4294967295 : Int64)) 1 < 0 := by
  rw [lw_lt, Int64.lt_iff_toInt_lt]
  have h := msk_int x
  have hp := un_pos hx
  have e0 : (1 : Int64).toInt = 1 := rfl
  show ¬ (msk x).toInt < _
  omega
theorem sgn_nz {v : Int64} (h : ¬ v = 0) : ¬ sgn v = 0 := by
  unfold sgn; rw [if_neg h]
  split
  · decide
  · decide
theorem own_zor (a : Int64) : 0 ||| a = a := by
  apply Int64.toBitVec_inj.mp
  rw [Int64.toBitVec_or]
  exact BitVec.zero_or
theorem sgn_pos {v : Int64} (h0 : ¬ v = 0) (h : ¬ v < 0) : sgn v = 1 := by unfold sgn; rw [if_neg h, if_neg h0]
theorem sgn_neg {v : Int64} (h : v < 0) : sgn v = -1 := by unfold sgn; rw [if_pos h]
theorem mag_pos {v : Int64} (h0 : ¬ v = 0) (h : ¬ v < 0) : mag v = mags v := by unfold mag; rw [if_neg h0, if_neg h]
theorem mag_neg {v : Int64} (h0 : ¬ v = 0) (h : v < 0) : mag v = mags (-v) := by unfold mag; rw [if_neg h0, if_pos h]
theorem mags_hi {n : Int64} (h : ¬ hiw n = 0) : mags n = [hiw n, n.toInt32] := by unfold mags; rw [if_neg h]
theorem mags_lo {n : Int64} (h : hiw n = 0) : mags n = [n.toInt32] := by unfold mags; rw [if_pos h]
theorem p16 : ∀ k : Fin 17, 1 ≤ k.1 → ((Int64.ofNat k.1).toInt32 = Int32.ofNat k.1 ∧ sgn (Int64.ofNat k.1) = 1 ∧ mag (Int64.ofNat k.1) = [Int32.ofNat k.1]) := by decide
theorem n16 : ∀ k : Fin 17, 1 ≤ k.1 → ((-(-(Int64.ofNat k.1))).toInt32 = Int32.ofNat k.1 ∧ sgn (-(Int64.ofNat k.1)) = -1 ∧ mag (-(Int64.ofNat k.1)) = [Int32.ofNat k.1]) := by decide
theorem i64 : ∀ k : Fin 17, (Int64.ofNat k.1).toInt = k.1 ∧ (-(Int64.ofNat k.1)).toInt = -k.1 := by decide
theorem i16 : ∀ k : Fin 17, ¬ Int32.ofNat k.1 < 0 ∧ Int32.ofNat k.1 < 17 ∧ (Int32.ofNat k.1).toNatClampNeg = k.1 := by decide
theorem pos16 {v : Int64} (h1 : 0 < v) (h2 : ¬ 16 < v) : ∃ i : Nat, 1 ≤ i ∧ i ≤ 16 ∧ v.toInt32 = Int32.ofNat i ∧ sgn v = 1 ∧ mag v = [Int32.ofNat i] := by
  rw [Int64.lt_iff_toInt_lt] at h1 h2
  have e0 : (0 : Int64).toInt = 0 := rfl
  have e1 : (16 : Int64).toInt = 16 := rfl
  rw [e0] at h1
  rw [e1] at h2
  obtain ⟨k, hk⟩ := Int.eq_ofNat_of_zero_le (Int.le_of_lt h1)
  have hl : k < 17 := by omega
  have hv : v = Int64.ofNat k := Int64.toInt_inj.mp (hk.trans (i64 ⟨k, hl⟩).1.symm)
  subst hv
  exact ⟨k, by omega, by omega, p16 ⟨k, hl⟩ (by show 1 ≤ k; omega)⟩
theorem neg16 {v : Int64} (h1 : v < 0) (h2 : ¬ v < -16) : ∃ i : Nat, 1 ≤ i ∧ i ≤ 16 ∧ (-v).toInt32 = Int32.ofNat i ∧ sgn v = -1 ∧ mag v = [Int32.ofNat i] := by
  rw [Int64.lt_iff_toInt_lt] at h1 h2
  have e0 : (0 : Int64).toInt = 0 := rfl
  have e1 : (-16 : Int64).toInt = -16 := rfl
  rw [e0] at h1
  rw [e1] at h2
  obtain ⟨k, hk⟩ := Int.eq_ofNat_of_zero_le (show 0 ≤ -v.toInt by omega)
  have hl : k < 17 := by omega
  have hv : v = -(Int64.ofNat k) := Int64.toInt_inj.mp (by rw [show (-(Int64.ofNat k)).toInt = -(k : Int) from (i64 ⟨k, hl⟩).2]; omega)
  subst hv
  exact ⟨k, by omega, by omega, n16 ⟨k, hl⟩ (by show 1 ≤ k; omega)⟩
theorem msk_lt (x y : Int32) : lcmpW (x.toInt64 &&& (4294967295 : Int64)) (y.toInt64 &&& (4294967295 : Int64)) < 0 ↔ un x < un y := by
  rw [lw_lt, Int64.lt_iff_toInt_lt]
  have h1 := msk_int x
  have h2 := msk_int y
  show (msk x).toInt < (msk y).toInt ↔ _
  omega
theorem cmp_neg (a b : Int) : cmpI (-a) (-b) = cmpI b a := by
  unfold cmpI
  rcases Int.lt_trichotomy a b with q | q | q
  · rw [if_neg (by omega), if_neg (by omega), if_neg (by omega), if_neg (by omega)]
  · rw [if_neg (by omega), if_pos (by omega), if_neg (by omega), if_pos (by omega)]
  · rw [if_pos (by omega), if_pos (by omega)]
theorem ival1 (ms : List Int32) : ival 1 ms = mval ms := by unfold ival; rw [show (1 : Int32).toInt = 1 from rfl]; omega
theorem ivalm (ms : List Int32) : ival (-1) ms = -(mval ms : Int) := by unfold ival; rw [show (-1 : Int32).toInt = -1 from rfl]; omega
theorem ival0 : ival 0 [] = 0 := rfl
theorem mv1 (x : Int32) : mval [x] = un x := rfl
theorem mv2 (x y : Int32) : mval [x, y] = un x * 4294967296 + un y := rfl
theorem un_nei {x y : Int32} (h : ¬ x = y) : un x ≠ un y := fun q => h (un_inj q)

theorem own_ntz {Z s : State} {a0 args : Array Value} (hZ : Z.Warmed39 s.vm) (hw : ∀ d ∈ tables_1, d.before a0 Z = true) : Jvm.Free.JP.Integer_numberOfTrailingZeros_I.tab.before args s = true :=
  Jvm.Free.XT.unparts (mvT hZ (hw _ (List.mem_of_getElem? (i := 97) rfl))) (fun d q => by
    have q : d ∈ [Cond.initialized "java/lang/Integer", Cond.constant "java/lang/Integer" 264 65536] := q
    simp only [List.mem_cons, List.not_mem_nil, or_false] at q
    rcases q with rfl | rfl
    · exact mvT hZ (hw _ (List.mem_of_getElem? (i := 96) rfl))
    · exact mvT hZ (hw _ (List.mem_of_getElem? (i := 107) rfl))
    )
theorem own_nlz {Z s : State} {a0 args : Array Value} (hZ : Z.Warmed39 s.vm) (hw : ∀ d ∈ tables_1, d.before a0 Z = true) : Jvm.Free.JP.Integer_numberOfLeadingZeros_I.tab.before args s = true :=
  Jvm.Free.XT.unparts (mvT hZ (hw _ (List.mem_of_getElem? (i := 238) rfl))) (fun d q => by
    have q : d ∈ [Cond.initialized "java/lang/Integer", Cond.constant "java/lang/Integer" 264 65536] := q
    simp only [List.mem_cons, List.not_mem_nil, or_false] at q
    rcases q with rfl | rfl
    · exact mvT hZ (hw _ (List.mem_of_getElem? (i := 96) rfl))
    · exact mvT hZ (hw _ (List.mem_of_getElem? (i := 107) rfl))
    )
theorem own_bc {Z s : State} {a0 args : Array Value} (hZ : Z.Warmed39 s.vm) (hw : ∀ d ∈ tables_1, d.before a0 Z = true) : Jvm.Free.JP.Integer_bitCount_I.tab.before args s = true :=
  Jvm.Free.XT.unparts (mvT hZ (hw _ (List.mem_of_getElem? (i := 200) rfl))) (fun d q => by
    have q : d ∈ [Cond.initialized "java/lang/Integer", Cond.constant "java/lang/Integer" 265 1431655765, Cond.constant "java/lang/Integer" 266 858993459, Cond.constant "java/lang/Integer" 267 252645135] := q
    simp only [List.mem_cons, List.not_mem_nil, or_false] at q
    rcases q with rfl | rfl | rfl | rfl
    · exact mvT hZ (hw _ (List.mem_of_getElem? (i := 96) rfl))
    · exact mvT hZ (hw _ (List.mem_of_getElem? (i := 201) rfl))
    · exact mvT hZ (hw _ (List.mem_of_getElem? (i := 202) rfl))
    · exact mvT hZ (hw _ (List.mem_of_getElem? (i := 203) rfl))
    )
set_option maxRecDepth 65536 in
set_option maxHeartbeats 40000000 in
theorem rm_num (l : Launch) (Z : State) (a0 : Array Value) (hw : ∀ d ∈ tables_1, d.before a0 Z = true) (hEL : EW Z a0 []) (n0 : Nat) (a : Addr) (h : Heap)   :
    Met l true Z [] n0 (⟨"java/lang/Number", "<init>", "()V"⟩ : MethodName) jdk_18_method_1_code 1 none ({ frames := 1, cells := 0, slots := 0, locals := 12 } : Room) [] #[(.ref a)] [] h (fun v h' => v = none ∧ h' = h) := by
  refine Met.of_body (a0 := a0) (L0 := #[.val (.ref a)]) (plainFor_of_name (by first | (simp [plainName, overriddenIn]; done) | decide +kernel)) (fun m => by first | rfl | (simp [entryFrame, mkF, argsToLocals, Value.category]; done)) hw hEL (by decide) ?_
  refine aloadN (pc' := 1) daa0 rfl rfl rfl ?_
  refine initObj (i := 130) (i2 := 17) (i3 := 18) (Wd := 0) (pc' := 4) daa1 rfl rfl rfl rfl (by decide) (Nat.le_of_ble_eq_true rfl) (by decide) rfl ?_
  exact retV daa4 rfl (by decide) (by decide) ⟨rfl, rfl⟩
set_option maxRecDepth 65536 in
set_option maxHeartbeats 40000000 in
theorem rm_bia1 (l : Launch) (Z : State) (a0 : Array Value) (hw : ∀ d ∈ tables_1, d.before a0 Z = true) (hEL : EW Z a0 []) (n0 : Nat) (a t : Addr) (k : ClassId) (s : Int32) (x : Int32) (h : Heap) (Ea : Exa Z h a "java/math/BigInteger") (Sa : Fld Z h a "java/math/BigInteger" "signum" "I" (.int (0 : Int32))) (Ma : Fld Z h a "java/math/BigInteger" "mag" "[I" .null) (At : Arv Z h t k .int (1 : Int32) [(.int x)] (.int (0 : Int32)))  :
    Met l true Z [] n0 (⟨"java/math/BigInteger", "<init>", "([II)V"⟩ : MethodName) jdk_2097_method_25_code 3 none ({ frames := 2, cells := 0, slots := 0, locals := 30 } : Room) [] #[(.ref a), (.ref t), (.int s)] [a] h (fun v h' => v = none ∧ Keep h h' [a] ∧ BI Z h' a s [x]) := by
  refine Met.of_body (a0 := a0) (L0 := #[.val (.ref a), .val (.ref t), .val (.int s)]) (plainFor_of_name (by first | (simp [plainName, overriddenIn]; done) | decide +kernel)) (fun m => by first | rfl | (simp [entryFrame, mkF, argsToLocals, Value.category]; done)) hw hEL (by decide) ?_
  have K : Keep h h [a] := Keep.refl _ _
  have ne_a_t : a ≠ t := Ea.neArv At (hw _ (List.mem_of_getElem? (i := 114) rfl))
  refine aloadN (pc' := 1) dab0 rfl rfl rfl ?_
  refine call (i := 129) (i2 := 128) (Wd := 0) (pc' := 4) (kInit (i := 124) (i2 := 125) (i4 := 129) (a := a) (argsL := []) (S' := []) (Wd := 0) dab1 rfl rfl rfl rfl (by decide) rfl pd_0 rfl rfl (Nat.le_of_ble_eq_true rfl)) (rm_num l Z a0 hw hEL n0 a _) rfl rfl (by simp) (by decide) (by decide) (by decide) (by decide) rfl fun v_ h1 P2 sz3 => ?_
  obtain ⟨rfl, e4⟩ := P2
  rw [e4]
  refine at' (ce' := 0) (sl' := 0) (pc' := 4) (S' := []) rfl rfl rfl rfl rfl ?_
  refine aloadN (pc' := 5) dab4 rfl rfl rfl ?_
  refine aloadN (pc' := 6) dab5 rfl rfl rfl ?_
  refine arraylength (pc' := 7) dab6 At rfl ?_
  refine ifT (pc' := 14) dab7 (by decide : ¬ ((1 : Int32) = (0 : Int32))) (by decide) rfl ?_
  refine iloadN (pc' := 15) dab14 rfl rfl ?_
  refine putfield (i := 34) (i2 := 35) (i3 := 114) (pc' := 18) (v' := (.int s)) (ty := .int) dab15 rfl (Or.inr ⟨rfl, rfl, rfl⟩) rfl Sa Ea (by decide) rfl rfl (by simp) rfl fun h5 W6 => ?_
  replace K := K.wr W6 (Or.inl (by simp))
  replace Ea := Ea.wr W6
  replace Sa := Sa.same W6
  replace Ma := Ma.other W6 (Or.inr (slot_ne (Or.inr (hw _ (List.mem_of_getElem? (i := 52) rfl))) (Or.inr (hw _ (List.mem_of_getElem? (i := 35) rfl))) (by decide) (t := (.array .int)) (t' := .int) (by decide) (by decide)))
  replace At := At.other W6 (Ne.symm ne_a_t)
  refine aloadN (pc' := 19) dab18 rfl rfl rfl ?_
  refine aloadN (pc' := 20) dab19 rfl rfl rfl ?_
  refine putfield (i := 131) (i2 := 52) (i3 := 114) (pc' := 23) (v' := (.ref t)) (ty := (.array .int)) dab20 rfl (Or.inr ⟨rfl, rfl, rfl⟩) rfl Ma Ea (by decide) rfl rfl (by simp) rfl fun h7 W8 => ?_
  replace K := K.wr W8 (Or.inl (by simp))
  replace Ea := Ea.wr W8
  replace Sa := Sa.other W8 (Or.inr (slot_ne (Or.inr (hw _ (List.mem_of_getElem? (i := 35) rfl))) (Or.inr (hw _ (List.mem_of_getElem? (i := 52) rfl))) (by decide) (t := .int) (t' := (.array .int)) (by decide) (by decide)))
  replace Ma := Ma.same W8
  replace At := At.other W8 (Ne.symm ne_a_t)
  refine aloadN (pc' := 24) dab23 rfl rfl rfl ?_
  refine getfield (i := 131) (pc' := 27) dab24 rfl Ma rfl ?_
  refine arraylength (pc' := 28) dab27 At rfl ?_
  refine ldcInt (i := 132) (v := (67108864 : Int32)) (pc' := 30) dab28 rfl rfl ?_
  refine icmpT (pc' := 37) dab30 (by decide : (1 : Int32) < (67108864 : Int32)) (by decide) rfl ?_
  exact retV dab37 rfl (by decide) (by decide) ⟨rfl, K, Ea, Sa, t, k, Ma, At⟩
set_option maxRecDepth 65536 in
set_option maxHeartbeats 40000000 in
theorem rm_bia2 (l : Launch) (Z : State) (a0 : Array Value) (hw : ∀ d ∈ tables_1, d.before a0 Z = true) (hEL : EW Z a0 []) (n0 : Nat) (a t : Addr) (k : ClassId) (s : Int32) (x y : Int32) (h : Heap) (Ea : Exa Z h a "java/math/BigInteger") (Sa : Fld Z h a "java/math/BigInteger" "signum" "I" (.int (0 : Int32))) (Ma : Fld Z h a "java/math/BigInteger" "mag" "[I" .null) (At : Arv Z h t k .int (2 : Int32) [(.int x), (.int y)] (.int (0 : Int32)))  :
    Met l true Z [] n0 (⟨"java/math/BigInteger", "<init>", "([II)V"⟩ : MethodName) jdk_2097_method_25_code 3 none ({ frames := 2, cells := 0, slots := 0, locals := 30 } : Room) [] #[(.ref a), (.ref t), (.int s)] [a] h (fun v h' => v = none ∧ Keep h h' [a] ∧ BI Z h' a s [x, y]) := by
  refine Met.of_body (a0 := a0) (L0 := #[.val (.ref a), .val (.ref t), .val (.int s)]) (plainFor_of_name (by first | (simp [plainName, overriddenIn]; done) | decide +kernel)) (fun m => by first | rfl | (simp [entryFrame, mkF, argsToLocals, Value.category]; done)) hw hEL (by decide) ?_
  have K : Keep h h [a] := Keep.refl _ _
  have ne_a_t : a ≠ t := Ea.neArv At (hw _ (List.mem_of_getElem? (i := 114) rfl))
  refine aloadN (pc' := 1) dab0 rfl rfl rfl ?_
  refine call (i := 129) (i2 := 128) (Wd := 0) (pc' := 4) (kInit (i := 124) (i2 := 125) (i4 := 129) (a := a) (argsL := []) (S' := []) (Wd := 0) dab1 rfl rfl rfl rfl (by decide) rfl pd_0 rfl rfl (Nat.le_of_ble_eq_true rfl)) (rm_num l Z a0 hw hEL n0 a _) rfl rfl (by simp) (by decide) (by decide) (by decide) (by decide) rfl fun v_ h9 P10 sz11 => ?_
  obtain ⟨rfl, e12⟩ := P10
  rw [e12]
  refine at' (ce' := 0) (sl' := 0) (pc' := 4) (S' := []) rfl rfl rfl rfl rfl ?_
  refine aloadN (pc' := 5) dab4 rfl rfl rfl ?_
  refine aloadN (pc' := 6) dab5 rfl rfl rfl ?_
  refine arraylength (pc' := 7) dab6 At rfl ?_
  refine ifT (pc' := 14) dab7 (by decide : ¬ ((2 : Int32) = (0 : Int32))) (by decide) rfl ?_
  refine iloadN (pc' := 15) dab14 rfl rfl ?_
  refine putfield (i := 34) (i2 := 35) (i3 := 114) (pc' := 18) (v' := (.int s)) (ty := .int) dab15 rfl (Or.inr ⟨rfl, rfl, rfl⟩) rfl Sa Ea (by decide) rfl rfl (by simp) rfl fun h13 W14 => ?_
  replace K := K.wr W14 (Or.inl (by simp))
  replace Ea := Ea.wr W14
  replace Sa := Sa.same W14
  replace Ma := Ma.other W14 (Or.inr (slot_ne (Or.inr (hw _ (List.mem_of_getElem? (i := 52) rfl))) (Or.inr (hw _ (List.mem_of_getElem? (i := 35) rfl))) (by decide) (t := (.array .int)) (t' := .int) (by decide) (by decide)))
  replace At := At.other W14 (Ne.symm ne_a_t)
  refine aloadN (pc' := 19) dab18 rfl rfl rfl ?_
  refine aloadN (pc' := 20) dab19 rfl rfl rfl ?_
  refine putfield (i := 131) (i2 := 52) (i3 := 114) (pc' := 23) (v' := (.ref t)) (ty := (.array .int)) dab20 rfl (Or.inr ⟨rfl, rfl, rfl⟩) rfl Ma Ea (by decide) rfl rfl (by simp) rfl fun h15 W16 => ?_
  replace K := K.wr W16 (Or.inl (by simp))
  replace Ea := Ea.wr W16
  replace Sa := Sa.other W16 (Or.inr (slot_ne (Or.inr (hw _ (List.mem_of_getElem? (i := 35) rfl))) (Or.inr (hw _ (List.mem_of_getElem? (i := 52) rfl))) (by decide) (t := .int) (t' := (.array .int)) (by decide) (by decide)))
  replace Ma := Ma.same W16
  replace At := At.other W16 (Ne.symm ne_a_t)
  refine aloadN (pc' := 24) dab23 rfl rfl rfl ?_
  refine getfield (i := 131) (pc' := 27) dab24 rfl Ma rfl ?_
  refine arraylength (pc' := 28) dab27 At rfl ?_
  refine ldcInt (i := 132) (v := (67108864 : Int32)) (pc' := 30) dab28 rfl rfl ?_
  refine icmpT (pc' := 37) dab30 (by decide : (2 : Int32) < (67108864 : Int32)) (by decide) rfl ?_
  exact retV dab37 rfl (by decide) (by decide) ⟨rfl, K, Ea, Sa, t, k, Ma, At⟩
set_option maxRecDepth 65536 in
set_option maxHeartbeats 40000000 in
theorem rm_mb0 (l : Launch) (Z : State) (a0 : Array Value) (hw : ∀ d ∈ tables_1, d.before a0 Z = true) (hEL : EW Z a0 []) (n0 : Nat) (m : Addr) (h : Heap) (Em : Exa Z h m "java/math/MutableBigInteger") (Vm : Fld Z h m "java/math/MutableBigInteger" "value" "[I" .null) (Om : Fld Z h m "java/math/MutableBigInteger" "offset" "I" (.int (0 : Int32))) (Lm : Fld Z h m "java/math/MutableBigInteger" "intLen" "I" (.int (0 : Int32)))  :
    Met l true Z [] n0 (⟨"java/math/MutableBigInteger", "<init>", "()V"⟩ : MethodName) jdk_2101_method_1_code 1 none ({ frames := 1, cells := 1, slots := 1, locals := 20 } : Room) [] #[(.ref m)] [m] h (fun v h' => ∃ t : Addr, v = none ∧ Keep h h' [m] ∧ h.size ≤ t ∧ MB Z h' m t 0 0 [0]) := by
  refine Met.of_body (a0 := a0) (L0 := #[.val (.ref m)]) (plainFor_of_name (by first | (simp [plainName, overriddenIn]; done) | decide +kernel)) (fun m => by first | rfl | (simp [entryFrame, mkF, argsToLocals, Value.category]; done)) hw hEL (by decide) ?_
  have K : Keep h h [m] := Keep.refl _ _
  refine aloadN (pc' := 1) dac0 rfl rfl rfl ?_
  refine initObj (i := 48) (i2 := 17) (i3 := 18) (Wd := 0) (pc' := 4) dac1 rfl rfl rfl rfl (by decide) (Nat.le_of_ble_eq_true rfl) (by decide) rfl ?_
  refine aloadN (pc' := 5) dac4 rfl rfl rfl ?_
  refine iconst (pc' := 6) (v := (0 : Int32)) dac5 rfl rfl ?_
  refine putfield (i := 49) (i2 := 50) (i3 := 42) (pc' := 9) (v' := (.int (0 : Int32))) (ty := .int) dac6 rfl (Or.inl rfl) rfl Om Em (by decide) rfl rfl (by simp) rfl fun h17 W18 => ?_
  replace K := K.wr W18 (Or.inl (by simp))
  replace Em := Em.wr W18
  replace Vm := Vm.other W18 (Or.inr (slot_ne (Or.inl (hw _ (List.mem_of_getElem? (i := 69) rfl))) (Or.inl (hw _ (List.mem_of_getElem? (i := 50) rfl))) (by decide) (t := (.array .int)) (t' := .int) (by decide) (by decide)))
  replace Om := Om.same W18
  replace Lm := Lm.other W18 (Or.inr (slot_ne (Or.inl (hw _ (List.mem_of_getElem? (i := 54) rfl))) (Or.inl (hw _ (List.mem_of_getElem? (i := 50) rfl))) (by decide) (t := .int) (t' := .int) (by decide) (by decide)))
  refine aloadN (pc' := 10) dac9 rfl rfl rfl ?_
  refine iconst (pc' := 11) (v := (1 : Int32)) dac10 rfl rfl ?_
  refine newarray (i := 79) (cap := 1) (ty := .int) (pc' := 13) dac11 rfl rfl (by decide) (by decide) (by decide) (by decide) (by decide) rfl fun h19 a20 kc24 g21 E22 V23 => ?_
  have sz_a20 : h.size ≤ a20 := by rw [g21]; exact K.1
  have ne_m_a20 : m ≠ a20 := Nat.ne_of_lt (by rw [g21]; exact Em.lt)
  replace K := K.ext E22
  replace Em := Em.ext E22
  replace Vm := Vm.ext E22
  replace Om := Om.ext E22
  replace Lm := Lm.ext E22
  replace V23 : Arv Z h19 a20 kc24 .int (1 : Int32) [(.int (0 : Int32))] (.int (0 : Int32)) := V23.pad (pad_rep [] (.int (0 : Int32)) 1)
  refine putfield (i := 68) (i2 := 69) (i3 := 42) (pc' := 16) (v' := (.ref a20)) (ty := (.array .int)) dac13 rfl (Or.inl rfl) rfl Vm Em (by decide) rfl rfl (by simp) rfl fun h25 W26 => ?_
  replace K := K.wr W26 (Or.inl (by simp))
  replace Em := Em.wr W26
  replace Vm := Vm.same W26
  replace Om := Om.other W26 (Or.inr (slot_ne (Or.inl (hw _ (List.mem_of_getElem? (i := 50) rfl))) (Or.inl (hw _ (List.mem_of_getElem? (i := 69) rfl))) (by decide) (t := .int) (t' := (.array .int)) (by decide) (by decide)))
  replace Lm := Lm.other W26 (Or.inr (slot_ne (Or.inl (hw _ (List.mem_of_getElem? (i := 54) rfl))) (Or.inl (hw _ (List.mem_of_getElem? (i := 69) rfl))) (by decide) (t := .int) (t' := (.array .int)) (by decide) (by decide)))
  replace V23 := V23.other W26 (Ne.symm ne_m_a20)
  refine aloadN (pc' := 17) dac16 rfl rfl rfl ?_
  refine iconst (pc' := 18) (v := (0 : Int32)) dac17 rfl rfl ?_
  refine putfield (i := 53) (i2 := 54) (i3 := 42) (pc' := 21) (v' := (.int (0 : Int32))) (ty := .int) dac18 rfl (Or.inl rfl) rfl Lm Em (by decide) rfl rfl (by simp) rfl fun h27 W28 => ?_
  replace K := K.wr W28 (Or.inl (by simp))
  replace Em := Em.wr W28
  replace Vm := Vm.other W28 (Or.inr (slot_ne (Or.inl (hw _ (List.mem_of_getElem? (i := 69) rfl))) (Or.inl (hw _ (List.mem_of_getElem? (i := 54) rfl))) (by decide) (t := (.array .int)) (t' := .int) (by decide) (by decide)))
  replace Om := Om.other W28 (Or.inr (slot_ne (Or.inl (hw _ (List.mem_of_getElem? (i := 50) rfl))) (Or.inl (hw _ (List.mem_of_getElem? (i := 54) rfl))) (by decide) (t := .int) (t' := .int) (by decide) (by decide)))
  replace Lm := Lm.same W28
  replace V23 := V23.other W28 (Ne.symm ne_m_a20)
  exact retV dac21 rfl (by decide) (by decide) ⟨a20, rfl, K, sz_a20, Em, Vm, Om, Lm, kc24, V23⟩
set_option maxRecDepth 65536 in
set_option maxHeartbeats 40000000 in
theorem rm_cp1 (l : Launch) (Z : State) (a0 : Array Value) (hw : ∀ d ∈ tables_1, d.before a0 Z = true) (hEL : EW Z a0 []) (n0 : Nat) (t : Addr) (k : ClassId) (x : Int32) (h : Heap) (At : Arv Z h t k .int (1 : Int32) [(.int x)] (.int (0 : Int32))) (Xt : Exa Z h t "[I")  :
    Met l true Z [] n0 (⟨"java/util/Arrays", "copyOf", "([II)[I"⟩ : MethodName) jdk_65_method_123_code 3 (some (.array .int)) ({ frames := 1, cells := 1, slots := 2, locals := 20 } : Room) [] #[(.ref t), (.int (1 : Int32))] [] h (fun v h' => ∃ r : Addr, v = some (.ref r) ∧ Ext h h' ∧ h.size ≤ r ∧ Arv Z h' r k .int (1 : Int32) [(.int x)] (.int (0 : Int32))) := by
  refine Met.of_body (a0 := a0) (L0 := #[.val (.ref t), .val (.int (1 : Int32)), .unset]) (plainFor_of_name (by first | (simp [plainName, overriddenIn]; done) | decide +kernel)) (fun m => by first | rfl | (simp [entryFrame, mkF, argsToLocals, Value.category]; done)) hw hEL (by decide) ?_
  refine iloadN (pc' := 1) dad0 rfl rfl ?_
  refine aloadN (pc' := 2) dad1 rfl rfl rfl ?_
  refine arraylength (pc' := 3) dad2 At rfl ?_
  refine icmpF (pc' := 6) dad3 (rfl : (1 : Int32) = (1 : Int32)) rfl ?_
  refine aloadN (pc' := 7) dad6 rfl rfl rfl ?_
  refine cloneArr (i1 := 59) (i2 := 60) (i3 := 64) (i4 := 62) (i5 := 63) (i6 := 65) (Wd := 0) (cap := 2) (pc' := 10) dad7 rfl rfl rfl rfl rfl rfl At Xt rfl (by decide) (by decide) (by decide) (by decide) (by decide) (by decide) rfl fun hq q gq Eq Aq Ea => ?_
  refine checkcast (i := 66) (pc' := 13) dad10 rfl (Ins.self Ea) rfl ?_
  exact retA dad13 rfl rfl rfl (by decide) (by decide) ⟨q, rfl, Eq, Nat.le_of_eq gq.symm, Aq⟩
set_option maxRecDepth 65536 in
set_option maxHeartbeats 40000000 in
theorem rm_cp2 (l : Launch) (Z : State) (a0 : Array Value) (hw : ∀ d ∈ tables_1, d.before a0 Z = true) (hEL : EW Z a0 []) (n0 : Nat) (t : Addr) (k : ClassId) (x y : Int32) (h : Heap) (At : Arv Z h t k .int (2 : Int32) [(.int x), (.int y)] (.int (0 : Int32))) (Xt : Exa Z h t "[I")  :
    Met l true Z [] n0 (⟨"java/util/Arrays", "copyOf", "([II)[I"⟩ : MethodName) jdk_65_method_123_code 3 (some (.array .int)) ({ frames := 1, cells := 1, slots := 2, locals := 20 } : Room) [] #[(.ref t), (.int (2 : Int32))] [] h (fun v h' => ∃ r : Addr, v = some (.ref r) ∧ Ext h h' ∧ h.size ≤ r ∧ Arv Z h' r k .int (2 : Int32) [(.int x), (.int y)] (.int (0 : Int32))) := by
  refine Met.of_body (a0 := a0) (L0 := #[.val (.ref t), .val (.int (2 : Int32)), .unset]) (plainFor_of_name (by first | (simp [plainName, overriddenIn]; done) | decide +kernel)) (fun m => by first | rfl | (simp [entryFrame, mkF, argsToLocals, Value.category]; done)) hw hEL (by decide) ?_
  refine iloadN (pc' := 1) dad0 rfl rfl ?_
  refine aloadN (pc' := 2) dad1 rfl rfl rfl ?_
  refine arraylength (pc' := 3) dad2 At rfl ?_
  refine icmpF (pc' := 6) dad3 (rfl : (2 : Int32) = (2 : Int32)) rfl ?_
  refine aloadN (pc' := 7) dad6 rfl rfl rfl ?_
  refine cloneArr (i1 := 59) (i2 := 60) (i3 := 64) (i4 := 62) (i5 := 63) (i6 := 65) (Wd := 0) (cap := 2) (pc' := 10) dad7 rfl rfl rfl rfl rfl rfl At Xt rfl (by decide) (by decide) (by decide) (by decide) (by decide) (by decide) rfl fun hq q gq Eq Aq Ea => ?_
  refine checkcast (i := 66) (pc' := 13) dad10 rfl (Ins.self Ea) rfl ?_
  exact retA dad13 rfl rfl rfl (by decide) (by decide) ⟨q, rfl, Eq, Nat.le_of_eq gq.symm, Aq⟩
set_option maxRecDepth 65536 in
set_option maxHeartbeats 40000000 in
theorem rm_mbB1 (l : Launch) (Z : State) (a0 : Array Value) (hw : ∀ d ∈ tables_1, d.before a0 Z = true) (hEL : EW Z a0 []) (n0 : Nat) (m a : Addr) (s : Int32) (x : Int32) (h : Heap) (Em : Exa Z h m "java/math/MutableBigInteger") (Vm : Fld Z h m "java/math/MutableBigInteger" "value" "[I" .null) (Om : Fld Z h m "java/math/MutableBigInteger" "offset" "I" (.int (0 : Int32))) (Lm : Fld Z h m "java/math/MutableBigInteger" "intLen" "I" (.int (0 : Int32))) (Ha : BIc Z h a s [x]) :
    Met l true Z [] n0 (⟨"java/math/MutableBigInteger", "<init>", "(Ljava/math/BigInteger;)V"⟩ : MethodName) jdk_2101_method_4_code 2 none ({ frames := 2, cells := 1, slots := 2, locals := 40 } : Room) [] #[(.ref m), (.ref a)] [m] h (fun v h' => ∃ t : Addr, v = none ∧ Keep h h' [m] ∧ h.size ≤ t ∧ MB Z h' m t 0 1 [x]) := by
  refine Met.of_body (a0 := a0) (L0 := #[.val (.ref m), .val (.ref a)]) (plainFor_of_name (by first | (simp [plainName, overriddenIn]; done) | decide +kernel)) (fun m => by first | rfl | (simp [entryFrame, mkF, argsToLocals, Value.category]; done)) hw hEL (by decide) ?_
  have K : Keep h h [m] := Keep.refl _ _
  obtain ⟨Ea, Sa, ta, ka, Ma, Aa, Xa⟩ := id Ha
  have Aa : Arv Z h ta ka .int (1 : Int32) [(.int x)] (.int (0 : Int32)) := Aa
  have ne_m_a : m ≠ a := Exa.ne Em Ea (by decide)
  have ne_m_ta : m ≠ ta := Em.neArv Aa (hw _ (List.mem_of_getElem? (i := 42) rfl))
  refine aloadN (pc' := 1) dae0 rfl rfl rfl ?_
  refine initObj (i := 48) (i2 := 17) (i3 := 18) (Wd := 0) (pc' := 4) dae1 rfl rfl rfl rfl (by decide) (Nat.le_of_ble_eq_true rfl) (by decide) rfl ?_
  refine aloadN (pc' := 5) dae4 rfl rfl rfl ?_
  refine iconst (pc' := 6) (v := (0 : Int32)) dae5 rfl rfl ?_
  refine putfield (i := 49) (i2 := 50) (i3 := 42) (pc' := 9) (v' := (.int (0 : Int32))) (ty := .int) dae6 rfl (Or.inl rfl) rfl Om Em (by decide) rfl rfl (by simp) rfl fun h29 W30 => ?_
  replace K := K.wr W30 (Or.inl (by simp))
  replace Em := Em.wr W30
  replace Vm := Vm.other W30 (Or.inr (slot_ne (Or.inl (hw _ (List.mem_of_getElem? (i := 69) rfl))) (Or.inl (hw _ (List.mem_of_getElem? (i := 50) rfl))) (by decide) (t := (.array .int)) (t' := .int) (by decide) (by decide)))
  replace Om := Om.same W30
  replace Lm := Lm.other W30 (Or.inr (slot_ne (Or.inl (hw _ (List.mem_of_getElem? (i := 54) rfl))) (Or.inl (hw _ (List.mem_of_getElem? (i := 50) rfl))) (by decide) (t := .int) (t' := .int) (by decide) (by decide)))
  replace Ea := Ea.wr W30
  replace Sa := Sa.other W30 (Or.inl (Ne.symm ne_m_a))
  replace Ma := Ma.other W30 (Or.inl (Ne.symm ne_m_a))
  replace Aa := Aa.other W30 (Ne.symm ne_m_ta)
  replace Xa := Xa.wr W30
  refine aloadN (pc' := 10) dae9 rfl rfl rfl ?_
  refine aloadN (pc' := 11) dae10 rfl rfl rfl ?_
  refine getfield (i := 51) (pc' := 14) dae11 rfl Ma rfl ?_
  refine arraylength (pc' := 15) dae14 Aa rfl ?_
  refine putfield (i := 53) (i2 := 54) (i3 := 42) (pc' := 18) (v' := (.int (1 : Int32))) (ty := .int) dae15 rfl (Or.inl rfl) rfl Lm Em (by decide) rfl rfl (by simp) rfl fun h31 W32 => ?_
  replace K := K.wr W32 (Or.inl (by simp))
  replace Em := Em.wr W32
  replace Vm := Vm.other W32 (Or.inr (slot_ne (Or.inl (hw _ (List.mem_of_getElem? (i := 69) rfl))) (Or.inl (hw _ (List.mem_of_getElem? (i := 54) rfl))) (by decide) (t := (.array .int)) (t' := .int) (by decide) (by decide)))
  replace Om := Om.other W32 (Or.inr (slot_ne (Or.inl (hw _ (List.mem_of_getElem? (i := 50) rfl))) (Or.inl (hw _ (List.mem_of_getElem? (i := 54) rfl))) (by decide) (t := .int) (t' := .int) (by decide) (by decide)))
  replace Lm := Lm.same W32
  replace Ea := Ea.wr W32
  replace Sa := Sa.other W32 (Or.inl (Ne.symm ne_m_a))
  replace Ma := Ma.other W32 (Or.inl (Ne.symm ne_m_a))
  replace Aa := Aa.other W32 (Ne.symm ne_m_ta)
  replace Xa := Xa.wr W32
  refine aloadN (pc' := 19) dae18 rfl rfl rfl ?_
  refine aloadN (pc' := 20) dae19 rfl rfl rfl ?_
  refine getfield (i := 51) (pc' := 23) dae20 rfl Ma rfl ?_
  refine aloadN (pc' := 24) dae23 rfl rfl rfl ?_
  refine getfield (i := 53) (pc' := 27) dae24 rfl Lm rfl ?_
  refine call (i := 58) (i2 := 57) (Wd := 1) (pc' := 30) (kStatic (i := 55) (i2 := 56) (i3 := 57) (i4 := 58) (argsL := [(.ref ta), (.int (1 : Int32))]) (S' := [(.ref m)]) (Wd := 1) dae27 rfl rfl rfl rfl (by decide) rfl pd_1 rfl rfl (Nat.le_of_ble_eq_true rfl)) (rm_cp1 l Z a0 hw hEL n0 ta ka x _ Aa Xa) rfl rfl (by simp) (by decide) (by decide) (by decide) (by decide) rfl fun v_ h33 P34 sz35 => ?_
  obtain ⟨r, rfl, X1, hr, A1⟩ := P34
  have sz_r : h.size ≤ r := Nat.le_trans K.1 hr
  have ne_m_r : m ≠ r := Nat.ne_of_lt (Nat.lt_of_lt_of_le Em.lt hr)
  have ne_a_r : a ≠ r := Nat.ne_of_lt (Nat.lt_of_lt_of_le Ea.lt hr)
  have ne_ta_r : ta ≠ r := Nat.ne_of_lt (Nat.lt_of_lt_of_le Aa.lt hr)
  replace K := K.ext X1
  replace Em := Em.ext X1
  replace Vm := Vm.ext X1
  replace Om := Om.ext X1
  replace Lm := Lm.ext X1
  replace Ea := Ea.ext X1
  replace Sa := Sa.ext X1
  replace Ma := Ma.ext X1
  replace Aa := Aa.ext X1
  replace Xa := Xa.ext X1
  refine at' (ce' := 1) (sl' := 2) (pc' := 30) (S' := [(.ref r), (.ref m)]) rfl rfl rfl rfl rfl ?_
  refine putfield (i := 68) (i2 := 69) (i3 := 42) (pc' := 33) (v' := (.ref r)) (ty := (.array .int)) dae30 rfl (Or.inl rfl) rfl Vm Em (by decide) rfl rfl (by simp) rfl fun h36 W37 => ?_
  replace K := K.wr W37 (Or.inl (by simp))
  replace Em := Em.wr W37
  replace Vm := Vm.same W37
  replace Om := Om.other W37 (Or.inr (slot_ne (Or.inl (hw _ (List.mem_of_getElem? (i := 50) rfl))) (Or.inl (hw _ (List.mem_of_getElem? (i := 69) rfl))) (by decide) (t := .int) (t' := (.array .int)) (by decide) (by decide)))
  replace Lm := Lm.other W37 (Or.inr (slot_ne (Or.inl (hw _ (List.mem_of_getElem? (i := 54) rfl))) (Or.inl (hw _ (List.mem_of_getElem? (i := 69) rfl))) (by decide) (t := .int) (t' := (.array .int)) (by decide) (by decide)))
  replace Ea := Ea.wr W37
  replace Sa := Sa.other W37 (Or.inl (Ne.symm ne_m_a))
  replace Ma := Ma.other W37 (Or.inl (Ne.symm ne_m_a))
  replace Aa := Aa.other W37 (Ne.symm ne_m_ta)
  replace Xa := Xa.wr W37
  replace A1 := A1.other W37 (Ne.symm ne_m_r)
  exact retV dae33 rfl (by decide) (by decide) ⟨r, rfl, K, sz_r, Em, Vm, Om, Lm, ka, A1⟩
set_option maxRecDepth 65536 in
set_option maxHeartbeats 40000000 in
theorem rm_mbB2 (l : Launch) (Z : State) (a0 : Array Value) (hw : ∀ d ∈ tables_1, d.before a0 Z = true) (hEL : EW Z a0 []) (n0 : Nat) (m a : Addr) (s : Int32) (x y : Int32) (h : Heap) (Em : Exa Z h m "java/math/MutableBigInteger") (Vm : Fld Z h m "java/math/MutableBigInteger" "value" "[I" .null) (Om : Fld Z h m "java/math/MutableBigInteger" "offset" "I" (.int (0 : Int32))) (Lm : Fld Z h m "java/math/MutableBigInteger" "intLen" "I" (.int (0 : Int32))) (Ha : BIc Z h a s [x, y]) :
    Met l true Z [] n0 (⟨"java/math/MutableBigInteger", "<init>", "(Ljava/math/BigInteger;)V"⟩ : MethodName) jdk_2101_method_4_code 2 none ({ frames := 2, cells := 1, slots := 2, locals := 40 } : Room) [] #[(.ref m), (.ref a)] [m] h (fun v h' => ∃ t : Addr, v = none ∧ Keep h h' [m] ∧ h.size ≤ t ∧ MB Z h' m t 0 2 [x, y]) := by
  refine Met.of_body (a0 := a0) (L0 := #[.val (.ref m), .val (.ref a)]) (plainFor_of_name (by first | (simp [plainName, overriddenIn]; done) | decide +kernel)) (fun m => by first | rfl | (simp [entryFrame, mkF, argsToLocals, Value.category]; done)) hw hEL (by decide) ?_
  have K : Keep h h [m] := Keep.refl _ _
  obtain ⟨Ea, Sa, ta, ka, Ma, Aa, Xa⟩ := id Ha
  have Aa : Arv Z h ta ka .int (2 : Int32) [(.int x), (.int y)] (.int (0 : Int32)) := Aa
  have ne_m_a : m ≠ a := Exa.ne Em Ea (by decide)
  have ne_m_ta : m ≠ ta := Em.neArv Aa (hw _ (List.mem_of_getElem? (i := 42) rfl))
  refine aloadN (pc' := 1) dae0 rfl rfl rfl ?_
  refine initObj (i := 48) (i2 := 17) (i3 := 18) (Wd := 0) (pc' := 4) dae1 rfl rfl rfl rfl (by decide) (Nat.le_of_ble_eq_true rfl) (by decide) rfl ?_
  refine aloadN (pc' := 5) dae4 rfl rfl rfl ?_
  refine iconst (pc' := 6) (v := (0 : Int32)) dae5 rfl rfl ?_
  refine putfield (i := 49) (i2 := 50) (i3 := 42) (pc' := 9) (v' := (.int (0 : Int32))) (ty := .int) dae6 rfl (Or.inl rfl) rfl Om Em (by decide) rfl rfl (by simp) rfl fun h38 W39 => ?_
  replace K := K.wr W39 (Or.inl (by simp))
  replace Em := Em.wr W39
  replace Vm := Vm.other W39 (Or.inr (slot_ne (Or.inl (hw _ (List.mem_of_getElem? (i := 69) rfl))) (Or.inl (hw _ (List.mem_of_getElem? (i := 50) rfl))) (by decide) (t := (.array .int)) (t' := .int) (by decide) (by decide)))
  replace Om := Om.same W39
  replace Lm := Lm.other W39 (Or.inr (slot_ne (Or.inl (hw _ (List.mem_of_getElem? (i := 54) rfl))) (Or.inl (hw _ (List.mem_of_getElem? (i := 50) rfl))) (by decide) (t := .int) (t' := .int) (by decide) (by decide)))
  replace Ea := Ea.wr W39
  replace Sa := Sa.other W39 (Or.inl (Ne.symm ne_m_a))
  replace Ma := Ma.other W39 (Or.inl (Ne.symm ne_m_a))
  replace Aa := Aa.other W39 (Ne.symm ne_m_ta)
  replace Xa := Xa.wr W39
  refine aloadN (pc' := 10) dae9 rfl rfl rfl ?_
  refine aloadN (pc' := 11) dae10 rfl rfl rfl ?_
  refine getfield (i := 51) (pc' := 14) dae11 rfl Ma rfl ?_
  refine arraylength (pc' := 15) dae14 Aa rfl ?_
  refine putfield (i := 53) (i2 := 54) (i3 := 42) (pc' := 18) (v' := (.int (2 : Int32))) (ty := .int) dae15 rfl (Or.inl rfl) rfl Lm Em (by decide) rfl rfl (by simp) rfl fun h40 W41 => ?_
  replace K := K.wr W41 (Or.inl (by simp))
  replace Em := Em.wr W41
  replace Vm := Vm.other W41 (Or.inr (slot_ne (Or.inl (hw _ (List.mem_of_getElem? (i := 69) rfl))) (Or.inl (hw _ (List.mem_of_getElem? (i := 54) rfl))) (by decide) (t := (.array .int)) (t' := .int) (by decide) (by decide)))
  replace Om := Om.other W41 (Or.inr (slot_ne (Or.inl (hw _ (List.mem_of_getElem? (i := 50) rfl))) (Or.inl (hw _ (List.mem_of_getElem? (i := 54) rfl))) (by decide) (t := .int) (t' := .int) (by decide) (by decide)))
  replace Lm := Lm.same W41
  replace Ea := Ea.wr W41
  replace Sa := Sa.other W41 (Or.inl (Ne.symm ne_m_a))
  replace Ma := Ma.other W41 (Or.inl (Ne.symm ne_m_a))
  replace Aa := Aa.other W41 (Ne.symm ne_m_ta)
  replace Xa := Xa.wr W41
  refine aloadN (pc' := 19) dae18 rfl rfl rfl ?_
  refine aloadN (pc' := 20) dae19 rfl rfl rfl ?_
  refine getfield (i := 51) (pc' := 23) dae20 rfl Ma rfl ?_
  refine aloadN (pc' := 24) dae23 rfl rfl rfl ?_
  refine getfield (i := 53) (pc' := 27) dae24 rfl Lm rfl ?_
  refine call (i := 58) (i2 := 57) (Wd := 1) (pc' := 30) (kStatic (i := 55) (i2 := 56) (i3 := 57) (i4 := 58) (argsL := [(.ref ta), (.int (2 : Int32))]) (S' := [(.ref m)]) (Wd := 1) dae27 rfl rfl rfl rfl (by decide) rfl pd_1 rfl rfl (Nat.le_of_ble_eq_true rfl)) (rm_cp2 l Z a0 hw hEL n0 ta ka x y _ Aa Xa) rfl rfl (by simp) (by decide) (by decide) (by decide) (by decide) rfl fun v_ h42 P43 sz44 => ?_
  obtain ⟨r, rfl, X1, hr, A1⟩ := P43
  have sz_r : h.size ≤ r := Nat.le_trans K.1 hr
  have ne_m_r : m ≠ r := Nat.ne_of_lt (Nat.lt_of_lt_of_le Em.lt hr)
  have ne_a_r : a ≠ r := Nat.ne_of_lt (Nat.lt_of_lt_of_le Ea.lt hr)
  have ne_ta_r : ta ≠ r := Nat.ne_of_lt (Nat.lt_of_lt_of_le Aa.lt hr)
  replace K := K.ext X1
  replace Em := Em.ext X1
  replace Vm := Vm.ext X1
  replace Om := Om.ext X1
  replace Lm := Lm.ext X1
  replace Ea := Ea.ext X1
  replace Sa := Sa.ext X1
  replace Ma := Ma.ext X1
  replace Aa := Aa.ext X1
  replace Xa := Xa.ext X1
  refine at' (ce' := 1) (sl' := 2) (pc' := 30) (S' := [(.ref r), (.ref m)]) rfl rfl rfl rfl rfl ?_
  refine putfield (i := 68) (i2 := 69) (i3 := 42) (pc' := 33) (v' := (.ref r)) (ty := (.array .int)) dae30 rfl (Or.inl rfl) rfl Vm Em (by decide) rfl rfl (by simp) rfl fun h45 W46 => ?_
  replace K := K.wr W46 (Or.inl (by simp))
  replace Em := Em.wr W46
  replace Vm := Vm.same W46
  replace Om := Om.other W46 (Or.inr (slot_ne (Or.inl (hw _ (List.mem_of_getElem? (i := 50) rfl))) (Or.inl (hw _ (List.mem_of_getElem? (i := 69) rfl))) (by decide) (t := .int) (t' := (.array .int)) (by decide) (by decide)))
  replace Lm := Lm.other W46 (Or.inr (slot_ne (Or.inl (hw _ (List.mem_of_getElem? (i := 54) rfl))) (Or.inl (hw _ (List.mem_of_getElem? (i := 69) rfl))) (by decide) (t := .int) (t' := (.array .int)) (by decide) (by decide)))
  replace Ea := Ea.wr W46
  replace Sa := Sa.other W46 (Or.inl (Ne.symm ne_m_a))
  replace Ma := Ma.other W46 (Or.inl (Ne.symm ne_m_a))
  replace Aa := Aa.other W46 (Ne.symm ne_m_ta)
  replace Xa := Xa.wr W46
  replace A1 := A1.other W46 (Ne.symm ne_m_r)
  exact retV dae33 rfl (by decide) (by decide) ⟨r, rfl, K, sz_r, Em, Vm, Om, Lm, ka, A1⟩
set_option maxRecDepth 65536 in
set_option maxHeartbeats 40000000 in
theorem rm_mbA0 (l : Launch) (Z : State) (a0 : Array Value) (hw : ∀ d ∈ tables_1, d.before a0 Z = true) (hEL : EW Z a0 []) (n0 : Nat) (m t : Addr) (k : ClassId) (h : Heap) (Em : Exa Z h m "java/math/MutableBigInteger") (Vm : Fld Z h m "java/math/MutableBigInteger" "value" "[I" .null) (Om : Fld Z h m "java/math/MutableBigInteger" "offset" "I" (.int (0 : Int32))) (Lm : Fld Z h m "java/math/MutableBigInteger" "intLen" "I" (.int (0 : Int32))) (At : Arv Z h t k .int (0 : Int32) [] (.int (0 : Int32)))  :
    Met l true Z [] n0 (⟨"java/math/MutableBigInteger", "<init>", "([I)V"⟩ : MethodName) jdk_2101_method_3_code 2 none ({ frames := 1, cells := 0, slots := 0, locals := 20 } : Room) [] #[(.ref m), (.ref t)] [m] h (fun v h' => v = none ∧ Keep h h' [m] ∧ MB Z h' m t 0 0 []) := by
  refine Met.of_body (a0 := a0) (L0 := #[.val (.ref m), .val (.ref t)]) (plainFor_of_name (by first | (simp [plainName, overriddenIn]; done) | decide +kernel)) (fun m => by first | rfl | (simp [entryFrame, mkF, argsToLocals, Value.category]; done)) hw hEL (by decide) ?_
  have K : Keep h h [m] := Keep.refl _ _
  have ne_m_t : m ≠ t := Em.neArv At (hw _ (List.mem_of_getElem? (i := 42) rfl))
  refine aloadN (pc' := 1) daf0 rfl rfl rfl ?_
  refine initObj (i := 48) (i2 := 17) (i3 := 18) (Wd := 0) (pc' := 4) daf1 rfl rfl rfl rfl (by decide) (Nat.le_of_ble_eq_true rfl) (by decide) rfl ?_
  refine aloadN (pc' := 5) daf4 rfl rfl rfl ?_
  refine iconst (pc' := 6) (v := (0 : Int32)) daf5 rfl rfl ?_
  refine putfield (i := 49) (i2 := 50) (i3 := 42) (pc' := 9) (v' := (.int (0 : Int32))) (ty := .int) daf6 rfl (Or.inl rfl) rfl Om Em (by decide) rfl rfl (by simp) rfl fun h47 W48 => ?_
  replace K := K.wr W48 (Or.inl (by simp))
  replace Em := Em.wr W48
  replace Vm := Vm.other W48 (Or.inr (slot_ne (Or.inl (hw _ (List.mem_of_getElem? (i := 69) rfl))) (Or.inl (hw _ (List.mem_of_getElem? (i := 50) rfl))) (by decide) (t := (.array .int)) (t' := .int) (by decide) (by decide)))
  replace Om := Om.same W48
  replace Lm := Lm.other W48 (Or.inr (slot_ne (Or.inl (hw _ (List.mem_of_getElem? (i := 54) rfl))) (Or.inl (hw _ (List.mem_of_getElem? (i := 50) rfl))) (by decide) (t := .int) (t' := .int) (by decide) (by decide)))
  replace At := At.other W48 (Ne.symm ne_m_t)
  refine aloadN (pc' := 10) daf9 rfl rfl rfl ?_
  refine aloadN (pc' := 11) daf10 rfl rfl rfl ?_
  refine putfield (i := 68) (i2 := 69) (i3 := 42) (pc' := 14) (v' := (.ref t)) (ty := (.array .int)) daf11 rfl (Or.inl rfl) rfl Vm Em (by decide) rfl rfl (by simp) rfl fun h49 W50 => ?_
  replace K := K.wr W50 (Or.inl (by simp))
  replace Em := Em.wr W50
  replace Vm := Vm.same W50
  replace Om := Om.other W50 (Or.inr (slot_ne (Or.inl (hw _ (List.mem_of_getElem? (i := 50) rfl))) (Or.inl (hw _ (List.mem_of_getElem? (i := 69) rfl))) (by decide) (t := .int) (t' := (.array .int)) (by decide) (by decide)))
  replace Lm := Lm.other W50 (Or.inr (slot_ne (Or.inl (hw _ (List.mem_of_getElem? (i := 54) rfl))) (Or.inl (hw _ (List.mem_of_getElem? (i := 69) rfl))) (by decide) (t := .int) (t' := (.array .int)) (by decide) (by decide)))
  replace At := At.other W50 (Ne.symm ne_m_t)
  refine aloadN (pc' := 15) daf14 rfl rfl rfl ?_
  refine aloadN (pc' := 16) daf15 rfl rfl rfl ?_
  refine arraylength (pc' := 17) daf16 At rfl ?_
  refine putfield (i := 53) (i2 := 54) (i3 := 42) (pc' := 20) (v' := (.int (0 : Int32))) (ty := .int) daf17 rfl (Or.inl rfl) rfl Lm Em (by decide) rfl rfl (by simp) rfl fun h51 W52 => ?_
  replace K := K.wr W52 (Or.inl (by simp))
  replace Em := Em.wr W52
  replace Vm := Vm.other W52 (Or.inr (slot_ne (Or.inl (hw _ (List.mem_of_getElem? (i := 69) rfl))) (Or.inl (hw _ (List.mem_of_getElem? (i := 54) rfl))) (by decide) (t := (.array .int)) (t' := .int) (by decide) (by decide)))
  replace Om := Om.other W52 (Or.inr (slot_ne (Or.inl (hw _ (List.mem_of_getElem? (i := 50) rfl))) (Or.inl (hw _ (List.mem_of_getElem? (i := 54) rfl))) (by decide) (t := .int) (t' := .int) (by decide) (by decide)))
  replace Lm := Lm.same W52
  replace At := At.other W52 (Ne.symm ne_m_t)
  exact retV daf20 rfl (by decide) (by decide) ⟨rfl, K, Em, Vm, Om, Lm, k, At⟩
set_option maxRecDepth 65536 in
set_option maxHeartbeats 40000000 in
theorem rm_mbA1 (l : Launch) (Z : State) (a0 : Array Value) (hw : ∀ d ∈ tables_1, d.before a0 Z = true) (hEL : EW Z a0 []) (n0 : Nat) (m t : Addr) (k : ClassId) (x : Int32) (h : Heap) (Em : Exa Z h m "java/math/MutableBigInteger") (Vm : Fld Z h m "java/math/MutableBigInteger" "value" "[I" .null) (Om : Fld Z h m "java/math/MutableBigInteger" "offset" "I" (.int (0 : Int32))) (Lm : Fld Z h m "java/math/MutableBigInteger" "intLen" "I" (.int (0 : Int32))) (At : Arv Z h t k .int (1 : Int32) [(.int x)] (.int (0 : Int32)))  :
    Met l true Z [] n0 (⟨"java/math/MutableBigInteger", "<init>", "([I)V"⟩ : MethodName) jdk_2101_method_3_code 2 none ({ frames := 1, cells := 0, slots := 0, locals := 20 } : Room) [] #[(.ref m), (.ref t)] [m] h (fun v h' => v = none ∧ Keep h h' [m] ∧ MB Z h' m t 0 1 [x]) := by
  refine Met.of_body (a0 := a0) (L0 := #[.val (.ref m), .val (.ref t)]) (plainFor_of_name (by first | (simp [plainName, overriddenIn]; done) | decide +kernel)) (fun m => by first | rfl | (simp [entryFrame, mkF, argsToLocals, Value.category]; done)) hw hEL (by decide) ?_
  have K : Keep h h [m] := Keep.refl _ _
  have ne_m_t : m ≠ t := Em.neArv At (hw _ (List.mem_of_getElem? (i := 42) rfl))
  refine aloadN (pc' := 1) daf0 rfl rfl rfl ?_
  refine initObj (i := 48) (i2 := 17) (i3 := 18) (Wd := 0) (pc' := 4) daf1 rfl rfl rfl rfl (by decide) (Nat.le_of_ble_eq_true rfl) (by decide) rfl ?_
  refine aloadN (pc' := 5) daf4 rfl rfl rfl ?_
  refine iconst (pc' := 6) (v := (0 : Int32)) daf5 rfl rfl ?_
  refine putfield (i := 49) (i2 := 50) (i3 := 42) (pc' := 9) (v' := (.int (0 : Int32))) (ty := .int) daf6 rfl (Or.inl rfl) rfl Om Em (by decide) rfl rfl (by simp) rfl fun h53 W54 => ?_
  replace K := K.wr W54 (Or.inl (by simp))
  replace Em := Em.wr W54
  replace Vm := Vm.other W54 (Or.inr (slot_ne (Or.inl (hw _ (List.mem_of_getElem? (i := 69) rfl))) (Or.inl (hw _ (List.mem_of_getElem? (i := 50) rfl))) (by decide) (t := (.array .int)) (t' := .int) (by decide) (by decide)))
  replace Om := Om.same W54
  replace Lm := Lm.other W54 (Or.inr (slot_ne (Or.inl (hw _ (List.mem_of_getElem? (i := 54) rfl))) (Or.inl (hw _ (List.mem_of_getElem? (i := 50) rfl))) (by decide) (t := .int) (t' := .int) (by decide) (by decide)))
  replace At := At.other W54 (Ne.symm ne_m_t)
  refine aloadN (pc' := 10) daf9 rfl rfl rfl ?_
  refine aloadN (pc' := 11) daf10 rfl rfl rfl ?_
  refine putfield (i := 68) (i2 := 69) (i3 := 42) (pc' := 14) (v' := (.ref t)) (ty := (.array .int)) daf11 rfl (Or.inl rfl) rfl Vm Em (by decide) rfl rfl (by simp) rfl fun h55 W56 => ?_
  replace K := K.wr W56 (Or.inl (by simp))
  replace Em := Em.wr W56
  replace Vm := Vm.same W56
  replace Om := Om.other W56 (Or.inr (slot_ne (Or.inl (hw _ (List.mem_of_getElem? (i := 50) rfl))) (Or.inl (hw _ (List.mem_of_getElem? (i := 69) rfl))) (by decide) (t := .int) (t' := (.array .int)) (by decide) (by decide)))
  replace Lm := Lm.other W56 (Or.inr (slot_ne (Or.inl (hw _ (List.mem_of_getElem? (i := 54) rfl))) (Or.inl (hw _ (List.mem_of_getElem? (i := 69) rfl))) (by decide) (t := .int) (t' := (.array .int)) (by decide) (by decide)))
  replace At := At.other W56 (Ne.symm ne_m_t)
  refine aloadN (pc' := 15) daf14 rfl rfl rfl ?_
  refine aloadN (pc' := 16) daf15 rfl rfl rfl ?_
  refine arraylength (pc' := 17) daf16 At rfl ?_
  refine putfield (i := 53) (i2 := 54) (i3 := 42) (pc' := 20) (v' := (.int (1 : Int32))) (ty := .int) daf17 rfl (Or.inl rfl) rfl Lm Em (by decide) rfl rfl (by simp) rfl fun h57 W58 => ?_
  replace K := K.wr W58 (Or.inl (by simp))
  replace Em := Em.wr W58
  replace Vm := Vm.other W58 (Or.inr (slot_ne (Or.inl (hw _ (List.mem_of_getElem? (i := 69) rfl))) (Or.inl (hw _ (List.mem_of_getElem? (i := 54) rfl))) (by decide) (t := (.array .int)) (t' := .int) (by decide) (by decide)))
  replace Om := Om.other W58 (Or.inr (slot_ne (Or.inl (hw _ (List.mem_of_getElem? (i := 50) rfl))) (Or.inl (hw _ (List.mem_of_getElem? (i := 54) rfl))) (by decide) (t := .int) (t' := .int) (by decide) (by decide)))
  replace Lm := Lm.same W58
  replace At := At.other W58 (Ne.symm ne_m_t)
  exact retV daf20 rfl (by decide) (by decide) ⟨rfl, K, Em, Vm, Om, Lm, k, At⟩
set_option maxRecDepth 65536 in
set_option maxHeartbeats 40000000 in
theorem rm_mbA2 (l : Launch) (Z : State) (a0 : Array Value) (hw : ∀ d ∈ tables_1, d.before a0 Z = true) (hEL : EW Z a0 []) (n0 : Nat) (m t : Addr) (k : ClassId) (x y : Int32) (h : Heap) (Em : Exa Z h m "java/math/MutableBigInteger") (Vm : Fld Z h m "java/math/MutableBigInteger" "value" "[I" .null) (Om : Fld Z h m "java/math/MutableBigInteger" "offset" "I" (.int (0 : Int32))) (Lm : Fld Z h m "java/math/MutableBigInteger" "intLen" "I" (.int (0 : Int32))) (At : Arv Z h t k .int (2 : Int32) [(.int x), (.int y)] (.int (0 : Int32)))  :
    Met l true Z [] n0 (⟨"java/math/MutableBigInteger", "<init>", "([I)V"⟩ : MethodName) jdk_2101_method_3_code 2 none ({ frames := 1, cells := 0, slots := 0, locals := 20 } : Room) [] #[(.ref m), (.ref t)] [m] h (fun v h' => v = none ∧ Keep h h' [m] ∧ MB Z h' m t 0 2 [x, y]) := by
  refine Met.of_body (a0 := a0) (L0 := #[.val (.ref m), .val (.ref t)]) (plainFor_of_name (by first | (simp [plainName, overriddenIn]; done) | decide +kernel)) (fun m => by first | rfl | (simp [entryFrame, mkF, argsToLocals, Value.category]; done)) hw hEL (by decide) ?_
  have K : Keep h h [m] := Keep.refl _ _
  have ne_m_t : m ≠ t := Em.neArv At (hw _ (List.mem_of_getElem? (i := 42) rfl))
  refine aloadN (pc' := 1) daf0 rfl rfl rfl ?_
  refine initObj (i := 48) (i2 := 17) (i3 := 18) (Wd := 0) (pc' := 4) daf1 rfl rfl rfl rfl (by decide) (Nat.le_of_ble_eq_true rfl) (by decide) rfl ?_
  refine aloadN (pc' := 5) daf4 rfl rfl rfl ?_
  refine iconst (pc' := 6) (v := (0 : Int32)) daf5 rfl rfl ?_
  refine putfield (i := 49) (i2 := 50) (i3 := 42) (pc' := 9) (v' := (.int (0 : Int32))) (ty := .int) daf6 rfl (Or.inl rfl) rfl Om Em (by decide) rfl rfl (by simp) rfl fun h59 W60 => ?_
  replace K := K.wr W60 (Or.inl (by simp))
  replace Em := Em.wr W60
  replace Vm := Vm.other W60 (Or.inr (slot_ne (Or.inl (hw _ (List.mem_of_getElem? (i := 69) rfl))) (Or.inl (hw _ (List.mem_of_getElem? (i := 50) rfl))) (by decide) (t := (.array .int)) (t' := .int) (by decide) (by decide)))
  replace Om := Om.same W60
  replace Lm := Lm.other W60 (Or.inr (slot_ne (Or.inl (hw _ (List.mem_of_getElem? (i := 54) rfl))) (Or.inl (hw _ (List.mem_of_getElem? (i := 50) rfl))) (by decide) (t := .int) (t' := .int) (by decide) (by decide)))
  replace At := At.other W60 (Ne.symm ne_m_t)
  refine aloadN (pc' := 10) daf9 rfl rfl rfl ?_
  refine aloadN (pc' := 11) daf10 rfl rfl rfl ?_
  refine putfield (i := 68) (i2 := 69) (i3 := 42) (pc' := 14) (v' := (.ref t)) (ty := (.array .int)) daf11 rfl (Or.inl rfl) rfl Vm Em (by decide) rfl rfl (by simp) rfl fun h61 W62 => ?_
  replace K := K.wr W62 (Or.inl (by simp))
  replace Em := Em.wr W62
  replace Vm := Vm.same W62
  replace Om := Om.other W62 (Or.inr (slot_ne (Or.inl (hw _ (List.mem_of_getElem? (i := 50) rfl))) (Or.inl (hw _ (List.mem_of_getElem? (i := 69) rfl))) (by decide) (t := .int) (t' := (.array .int)) (by decide) (by decide)))
  replace Lm := Lm.other W62 (Or.inr (slot_ne (Or.inl (hw _ (List.mem_of_getElem? (i := 54) rfl))) (Or.inl (hw _ (List.mem_of_getElem? (i := 69) rfl))) (by decide) (t := .int) (t' := (.array .int)) (by decide) (by decide)))
  replace At := At.other W62 (Ne.symm ne_m_t)
  refine aloadN (pc' := 15) daf14 rfl rfl rfl ?_
  refine aloadN (pc' := 16) daf15 rfl rfl rfl ?_
  refine arraylength (pc' := 17) daf16 At rfl ?_
  refine putfield (i := 53) (i2 := 54) (i3 := 42) (pc' := 20) (v' := (.int (2 : Int32))) (ty := .int) daf17 rfl (Or.inl rfl) rfl Lm Em (by decide) rfl rfl (by simp) rfl fun h63 W64 => ?_
  replace K := K.wr W64 (Or.inl (by simp))
  replace Em := Em.wr W64
  replace Vm := Vm.other W64 (Or.inr (slot_ne (Or.inl (hw _ (List.mem_of_getElem? (i := 69) rfl))) (Or.inl (hw _ (List.mem_of_getElem? (i := 54) rfl))) (by decide) (t := (.array .int)) (t' := .int) (by decide) (by decide)))
  replace Om := Om.other W64 (Or.inr (slot_ne (Or.inl (hw _ (List.mem_of_getElem? (i := 50) rfl))) (Or.inl (hw _ (List.mem_of_getElem? (i := 54) rfl))) (by decide) (t := .int) (t' := .int) (by decide) (by decide)))
  replace Lm := Lm.same W64
  replace At := At.other W64 (Ne.symm ne_m_t)
  exact retV daf20 rfl (by decide) (by decide) ⟨rfl, K, Em, Vm, Om, Lm, k, At⟩
set_option maxRecDepth 65536 in
set_option maxHeartbeats 40000000 in
theorem rm_bl (l : Launch) (Z : State) (a0 : Array Value) (hw : ∀ d ∈ tables_1, d.before a0 Z = true) (hEL : EW Z a0 []) (n0 : Nat) (x : Int32) (h : Heap)  (hx : ¬ x = 0) :
    Met l true Z [] n0 (⟨"java/math/BigInteger", "bitLengthForInt", "(I)I"⟩ : MethodName) jdk_2097_method_74_code 1 (some .int) ({ frames := 1, cells := 0, slots := 0, locals := 20 } : Room) [] #[(.int x)] [] h (fun v h' => ∃ b : Nat, v = some (.int (Int32.ofNat b)) ∧ 1 ≤ b ∧ b ≤ 32 ∧ 2 ^ (b - 1) ≤ un x ∧ un x < 2 ^ b ∧ h' = h) := by
  refine Met.of_body (a0 := a0) (L0 := #[.val (.int x)]) (plainFor_of_name (by first | (simp [plainName, overriddenIn]; done) | decide +kernel)) (fun m => by first | rfl | (simp [entryFrame, mkF, argsToLocals, Value.category]; done)) hw hEL (by decide) ?_
  refine bipush (pc' := 2) (v := (32 : Int32)) dag0 rfl rfl ?_
  refine iloadN (pc' := 3) dag2 rfl rfl ?_
  refine callJP (v := .int (Jvm.Free.JP.Integer_numberOfLeadingZeros_I.val x)) (pc' := 6) (kStatic (i := 236) (i2 := 237) (i3 := 96) (i4 := 238) (argsL := [(.int x)]) (S' := [(.int (32 : Int32))]) (Wd := 1) dag3 rfl rfl rfl rfl (by decide) rfl pd_2 rfl rfl (Nat.le_of_ble_eq_true rfl)) (fun hZ hw => Jvm.Free.JP.Integer_numberOfLeadingZeros_I.pays (W := 1) x (own_nlz hZ hw) (by decide) (by decide)) (fun _ => And.intro rfl trivial) (by decide) (by decide) rfl ?_
  refine isub (pc' := 7) dag6 rfl ?_
  obtain ⟨b, h1, h2, eb, h3, h4⟩ := nlz_spec x hx
  rw [eb]
  exact retI dag7 rfl (Or.inl rfl) rfl (by decide) (by decide) ⟨b, rfl, h1, h2, h3, h4, rfl⟩
set_option maxRecDepth 65536 in
set_option maxHeartbeats 40000000 in
theorem rm_lsb11 (l : Launch) (Z : State) (a0 : Array Value) (hw : ∀ d ∈ tables_1, d.before a0 Z = true) (hEL : EW Z a0 []) (n0 : Nat) (m t : Addr) (x : Int32) (h : Heap)  (Hm : MB Z h m t 0 1 [x]) (hx : ¬ x = 0) :
    Met l true Z [] n0 (⟨"java/math/MutableBigInteger", "getLowestSetBit", "()I"⟩ : MethodName) jdk_2101_method_18_code 3 (some .int) ({ frames := 1, cells := 0, slots := 0, locals := 20 } : Room) [] #[(.ref m)] [] h (fun v h' => ∃ lb : Int32, v = some (.int lb) ∧ LB1 x lb ∧ h' = h) := by
  refine Met.of_body (a0 := a0) (L0 := #[.val (.ref m), .unset, .unset]) (plainFor_of_name (by first | (simp [plainName, overriddenIn]; done) | decide +kernel)) (fun m => by first | rfl | (simp [entryFrame, mkF, argsToLocals, Value.category]; done)) hw hEL (by decide) ?_
  obtain ⟨Em, Vm, Om, Lm, km, Am⟩ := id Hm
  have Am : Arv Z h t km .int (1 : Int32) [(.int x)] (.int (0 : Int32)) := Am
  have ne_m_t : m ≠ t := Em.neArv Am (hw _ (List.mem_of_getElem? (i := 42) rfl))
  refine aloadN (pc' := 1) dah0 rfl rfl rfl ?_
  refine getfield (i := 53) (pc' := 4) dah1 rfl Lm rfl ?_
  refine ifT (pc' := 9) dah4 (by decide : ¬ ((1 : Int32) = (0 : Int32))) (by decide) rfl ?_
  refine aloadN (pc' := 10) dah9 rfl rfl rfl ?_
  refine getfield (i := 53) (pc' := 13) dah10 rfl Lm rfl ?_
  refine iconst (pc' := 14) (v := (1 : Int32)) dah13 rfl rfl ?_
  refine isub (pc' := 15) dah14 rfl ?_
  rw [show ((1 : Int32) - (1 : Int32)) = (0 : Int32) from by decide]
  refine istoreN (pc' := 16) (L' := #[.val (.ref m), .val (.int (0 : Int32)), .unset]) dah15 rfl rfl ?_
  refine iloadN (pc' := 17) dah16 rfl rfl ?_
  refine ifT (pc' := 40) dah17 (by decide : ¬ ((0 : Int32) < (0 : Int32))) (by decide) rfl ?_
  refine aloadN (pc' := 41) dah40 rfl rfl rfl ?_
  refine getfield (i := 68) (pc' := 44) dah41 rfl Vm rfl ?_
  refine iloadN (pc' := 45) dah44 rfl rfl ?_
  refine aloadN (pc' := 46) dah45 rfl rfl rfl ?_
  refine getfield (i := 49) (pc' := 49) dah46 rfl Om rfl ?_
  refine iadd (pc' := 50) dah49 rfl ?_
  rw [show ((0 : Int32) + (0 : Int32)) = (0 : Int32) from by decide]
  refine iaload (v := (.int x)) (pc' := 51) dah50 Am ⟨by decide, by decide⟩ rfl rfl ?_
  refine istoreN (pc' := 52) (L' := #[.val (.ref m), .val (.int (0 : Int32)), .val (.int x)]) dah51 rfl rfl ?_
  refine iloadN (pc' := 53) dah52 rfl rfl ?_
  refine ifT (pc' := 58) dah53 (hx : ¬ (x = (0 : Int32))) (by decide) rfl ?_
  refine aloadN (pc' := 59) dah58 rfl rfl rfl ?_
  refine getfield (i := 53) (pc' := 62) dah59 rfl Lm rfl ?_
  refine iconst (pc' := 63) (v := (1 : Int32)) dah62 rfl rfl ?_
  refine isub (pc' := 64) dah63 rfl ?_
  rw [show ((1 : Int32) - (1 : Int32)) = (0 : Int32) from by decide]
  refine iloadN (pc' := 65) dah64 rfl rfl ?_
  refine isub (pc' := 66) dah65 rfl ?_
  rw [show ((0 : Int32) - (0 : Int32)) = (0 : Int32) from by decide]
  refine iconst (pc' := 67) (v := (5 : Int32)) dah66 rfl rfl ?_
  refine ishl (pc' := 68) dah67 rfl ?_
  rw [show ((0 : Int32) <<< ((5 : Int32) &&& 31)) = (0 : Int32) from by decide]
  refine iloadN (pc' := 69) dah68 rfl rfl ?_
  refine callJP (v := .int (Jvm.Free.JP.Integer_numberOfTrailingZeros_I.val x)) (pc' := 72) (kStatic (i := 94) (i2 := 95) (i3 := 96) (i4 := 97) (argsL := [(.int x)]) (S' := [(.int (0 : Int32))]) (Wd := 1) dah69 rfl rfl rfl rfl (by decide) rfl pd_2 rfl rfl (Nat.le_of_ble_eq_true rfl)) (fun hZ hw => Jvm.Free.JP.Integer_numberOfTrailingZeros_I.pays (W := 1) x (own_ntz hZ hw) (by decide) (by decide)) (fun _ => And.intro rfl trivial) (by decide) (by decide) rfl ?_
  refine iadd (pc' := 73) dah72 rfl ?_
  obtain ⟨z, hz, hl, ez⟩ := ntz_ex x hx
  rw [ez]
  rw [show (0 : Int32) + Int32.ofNat z = Int32.ofNat z from Int32.zero_add _]
  exact retI dah73 rfl (Or.inl rfl) rfl (by decide) (by decide) ⟨_, rfl, ⟨z, hz, hl, rfl⟩, rfl⟩
set_option maxRecDepth 65536 in
set_option maxHeartbeats 40000000 in
theorem rm_lsb12 (l : Launch) (Z : State) (a0 : Array Value) (hw : ∀ d ∈ tables_1, d.before a0 Z = true) (hEL : EW Z a0 []) (n0 : Nat) (m t : Addr) (x w : Int32) (h : Heap)  (Hm : MB Z h m t 0 1 [x, w]) (hx : ¬ x = 0) :
    Met l true Z [] n0 (⟨"java/math/MutableBigInteger", "getLowestSetBit", "()I"⟩ : MethodName) jdk_2101_method_18_code 3 (some .int) ({ frames := 1, cells := 0, slots := 0, locals := 20 } : Room) [] #[(.ref m)] [] h (fun v h' => ∃ lb : Int32, v = some (.int lb) ∧ LB1 x lb ∧ h' = h) := by
  refine Met.of_body (a0 := a0) (L0 := #[.val (.ref m), .unset, .unset]) (plainFor_of_name (by first | (simp [plainName, overriddenIn]; done) | decide +kernel)) (fun m => by first | rfl | (simp [entryFrame, mkF, argsToLocals, Value.category]; done)) hw hEL (by decide) ?_
  obtain ⟨Em, Vm, Om, Lm, km, Am⟩ := id Hm
  have Am : Arv Z h t km .int (2 : Int32) [(.int x), (.int w)] (.int (0 : Int32)) := Am
  have ne_m_t : m ≠ t := Em.neArv Am (hw _ (List.mem_of_getElem? (i := 42) rfl))
  refine aloadN (pc' := 1) dah0 rfl rfl rfl ?_
  refine getfield (i := 53) (pc' := 4) dah1 rfl Lm rfl ?_
  refine ifT (pc' := 9) dah4 (by decide : ¬ ((1 : Int32) = (0 : Int32))) (by decide) rfl ?_
  refine aloadN (pc' := 10) dah9 rfl rfl rfl ?_
  refine getfield (i := 53) (pc' := 13) dah10 rfl Lm rfl ?_
  refine iconst (pc' := 14) (v := (1 : Int32)) dah13 rfl rfl ?_
  refine isub (pc' := 15) dah14 rfl ?_
  rw [show ((1 : Int32) - (1 : Int32)) = (0 : Int32) from by decide]
  refine istoreN (pc' := 16) (L' := #[.val (.ref m), .val (.int (0 : Int32)), .unset]) dah15 rfl rfl ?_
  refine iloadN (pc' := 17) dah16 rfl rfl ?_
  refine ifT (pc' := 40) dah17 (by decide : ¬ ((0 : Int32) < (0 : Int32))) (by decide) rfl ?_
  refine aloadN (pc' := 41) dah40 rfl rfl rfl ?_
  refine getfield (i := 68) (pc' := 44) dah41 rfl Vm rfl ?_
  refine iloadN (pc' := 45) dah44 rfl rfl ?_
  refine aloadN (pc' := 46) dah45 rfl rfl rfl ?_
  refine getfield (i := 49) (pc' := 49) dah46 rfl Om rfl ?_
  refine iadd (pc' := 50) dah49 rfl ?_
  rw [show ((0 : Int32) + (0 : Int32)) = (0 : Int32) from by decide]
  refine iaload (v := (.int x)) (pc' := 51) dah50 Am ⟨by decide, by decide⟩ rfl rfl ?_
  refine istoreN (pc' := 52) (L' := #[.val (.ref m), .val (.int (0 : Int32)), .val (.int x)]) dah51 rfl rfl ?_
  refine iloadN (pc' := 53) dah52 rfl rfl ?_
  refine ifT (pc' := 58) dah53 (hx : ¬ (x = (0 : Int32))) (by decide) rfl ?_
  refine aloadN (pc' := 59) dah58 rfl rfl rfl ?_
  refine getfield (i := 53) (pc' := 62) dah59 rfl Lm rfl ?_
  refine iconst (pc' := 63) (v := (1 : Int32)) dah62 rfl rfl ?_
  refine isub (pc' := 64) dah63 rfl ?_
  rw [show ((1 : Int32) - (1 : Int32)) = (0 : Int32) from by decide]
  refine iloadN (pc' := 65) dah64 rfl rfl ?_
  refine isub (pc' := 66) dah65 rfl ?_
  rw [show ((0 : Int32) - (0 : Int32)) = (0 : Int32) from by decide]
  refine iconst (pc' := 67) (v := (5 : Int32)) dah66 rfl rfl ?_
  refine ishl (pc' := 68) dah67 rfl ?_
  rw [show ((0 : Int32) <<< ((5 : Int32) &&& 31)) = (0 : Int32) from by decide]
  refine iloadN (pc' := 69) dah68 rfl rfl ?_
  refine callJP (v := .int (Jvm.Free.JP.Integer_numberOfTrailingZeros_I.val x)) (pc' := 72) (kStatic (i := 94) (i2 := 95) (i3 := 96) (i4 := 97) (argsL := [(.int x)]) (S' := [(.int (0 : Int32))]) (Wd := 1) dah69 rfl rfl rfl rfl (by decide) rfl pd_2 rfl rfl (Nat.le_of_ble_eq_true rfl)) (fun hZ hw => Jvm.Free.JP.Integer_numberOfTrailingZeros_I.pays (W := 1) x (own_ntz hZ hw) (by decide) (by decide)) (fun _ => And.intro rfl trivial) (by decide) (by decide) rfl ?_
  refine iadd (pc' := 73) dah72 rfl ?_
  obtain ⟨z, hz, hl, ez⟩ := ntz_ex x hx
  rw [ez]
  rw [show (0 : Int32) + Int32.ofNat z = Int32.ofNat z from Int32.zero_add _]
  exact retI dah73 rfl (Or.inl rfl) rfl (by decide) (by decide) ⟨_, rfl, ⟨z, hz, hl, rfl⟩, rfl⟩
set_option maxRecDepth 65536 in
set_option maxHeartbeats 40000000 in
theorem rm_lsb2 (l : Launch) (Z : State) (a0 : Array Value) (hw : ∀ d ∈ tables_1, d.before a0 Z = true) (hEL : EW Z a0 []) (n0 : Nat) (m t : Addr) (x y : Int32) (h : Heap)  (Hm : MB Z h m t 0 2 [x, y]) (hx : ¬ x = 0) :
    Met l true Z [] n0 (⟨"java/math/MutableBigInteger", "getLowestSetBit", "()I"⟩ : MethodName) jdk_2101_method_18_code 3 (some .int) ({ frames := 1, cells := 0, slots := 0, locals := 20 } : Room) [] #[(.ref m)] [] h (fun v h' => ∃ lb : Int32, v = some (.int lb) ∧ LB2 x y lb ∧ h' = h) := by
  refine Met.of_body (a0 := a0) (L0 := #[.val (.ref m), .unset, .unset]) (plainFor_of_name (by first | (simp [plainName, overriddenIn]; done) | decide +kernel)) (fun m => by first | rfl | (simp [entryFrame, mkF, argsToLocals, Value.category]; done)) hw hEL (by decide) ?_
  obtain ⟨Em, Vm, Om, Lm, km, Am⟩ := id Hm
  have Am : Arv Z h t km .int (2 : Int32) [(.int x), (.int y)] (.int (0 : Int32)) := Am
  have ne_m_t : m ≠ t := Em.neArv Am (hw _ (List.mem_of_getElem? (i := 42) rfl))
  refine aloadN (pc' := 1) dah0 rfl rfl rfl ?_
  refine getfield (i := 53) (pc' := 4) dah1 rfl Lm rfl ?_
  refine ifT (pc' := 9) dah4 (by decide : ¬ ((2 : Int32) = (0 : Int32))) (by decide) rfl ?_
  refine aloadN (pc' := 10) dah9 rfl rfl rfl ?_
  refine getfield (i := 53) (pc' := 13) dah10 rfl Lm rfl ?_
  refine iconst (pc' := 14) (v := (1 : Int32)) dah13 rfl rfl ?_
  refine isub (pc' := 15) dah14 rfl ?_
  rw [show ((2 : Int32) - (1 : Int32)) = (1 : Int32) from by decide]
  refine istoreN (pc' := 16) (L' := #[.val (.ref m), .val (.int (1 : Int32)), .unset]) dah15 rfl rfl ?_
  refine iloadN (pc' := 17) dah16 rfl rfl ?_
  refine ifF (pc' := 20) dah17 (by decide : (0 : Int32) < (1 : Int32)) rfl ?_
  refine aloadN (pc' := 21) dah20 rfl rfl rfl ?_
  refine getfield (i := 68) (pc' := 24) dah21 rfl Vm rfl ?_
  refine iloadN (pc' := 25) dah24 rfl rfl ?_
  refine aloadN (pc' := 26) dah25 rfl rfl rfl ?_
  refine getfield (i := 49) (pc' := 29) dah26 rfl Om rfl ?_
  refine iadd (pc' := 30) dah29 rfl ?_
  rw [show ((1 : Int32) + (0 : Int32)) = (1 : Int32) from by decide]
  refine iaload (v := (.int y)) (pc' := 31) dah30 Am ⟨by decide, by decide⟩ rfl rfl ?_
  refine ifc (pc' := 40) (pcF := 34) dah31 (by decide) rfl rfl (fun (q0 : ¬ (y = (0 : Int32))) => ?_) (fun (q0 : y = (0 : Int32)) => ?_)
  · skip
    refine aloadN (pc' := 41) dah40 rfl rfl rfl ?_
    refine getfield (i := 68) (pc' := 44) dah41 rfl Vm rfl ?_
    refine iloadN (pc' := 45) dah44 rfl rfl ?_
    refine aloadN (pc' := 46) dah45 rfl rfl rfl ?_
    refine getfield (i := 49) (pc' := 49) dah46 rfl Om rfl ?_
    refine iadd (pc' := 50) dah49 rfl ?_
    rw [show ((1 : Int32) + (0 : Int32)) = (1 : Int32) from by decide]
    refine iaload (v := (.int y)) (pc' := 51) dah50 Am ⟨by decide, by decide⟩ rfl rfl ?_
    refine istoreN (pc' := 52) (L' := #[.val (.ref m), .val (.int (1 : Int32)), .val (.int y)]) dah51 rfl rfl ?_
    refine iloadN (pc' := 53) dah52 rfl rfl ?_
    refine ifT (pc' := 58) dah53 (q0 : ¬ (y = (0 : Int32))) (by decide) rfl ?_
    refine aloadN (pc' := 59) dah58 rfl rfl rfl ?_
    refine getfield (i := 53) (pc' := 62) dah59 rfl Lm rfl ?_
    refine iconst (pc' := 63) (v := (1 : Int32)) dah62 rfl rfl ?_
    refine isub (pc' := 64) dah63 rfl ?_
    rw [show ((2 : Int32) - (1 : Int32)) = (1 : Int32) from by decide]
    refine iloadN (pc' := 65) dah64 rfl rfl ?_
    refine isub (pc' := 66) dah65 rfl ?_
    rw [show ((1 : Int32) - (1 : Int32)) = (0 : Int32) from by decide]
    refine iconst (pc' := 67) (v := (5 : Int32)) dah66 rfl rfl ?_
    refine ishl (pc' := 68) dah67 rfl ?_
    rw [show ((0 : Int32) <<< ((5 : Int32) &&& 31)) = (0 : Int32) from by decide]
    refine iloadN (pc' := 69) dah68 rfl rfl ?_
    refine callJP (v := .int (Jvm.Free.JP.Integer_numberOfTrailingZeros_I.val y)) (pc' := 72) (kStatic (i := 94) (i2 := 95) (i3 := 96) (i4 := 97) (argsL := [(.int y)]) (S' := [(.int (0 : Int32))]) (Wd := 1) dah69 rfl rfl rfl rfl (by decide) rfl pd_2 rfl rfl (Nat.le_of_ble_eq_true rfl)) (fun hZ hw => Jvm.Free.JP.Integer_numberOfTrailingZeros_I.pays (W := 1) y (own_ntz hZ hw) (by decide) (by decide)) (fun _ => And.intro rfl trivial) (by decide) (by decide) rfl ?_
    refine iadd (pc' := 73) dah72 rfl ?_
    obtain ⟨z, hz, hl, ez⟩ := ntz_ex y q0
    rw [ez]
    rw [show (0 : Int32) + Int32.ofNat z = Int32.ofNat z from Int32.zero_add _]
    exact retI dah73 rfl (Or.inl rfl) rfl (by decide) (by decide) ⟨_, rfl, Or.inr ⟨q0, z, hz, hl, rfl⟩, rfl⟩
  · skip
    refine iinc (pc' := 37) (v := (0 : Int32)) (L' := #[.val (.ref m), .val (.int (0 : Int32)), .unset]) dah34 rfl rfl rfl rfl ?_
    refine goto (pc' := 16) dah37 (by decide) rfl ?_
    refine iloadN (pc' := 17) dah16 rfl rfl ?_
    refine ifT (pc' := 40) dah17 (by decide : ¬ ((0 : Int32) < (0 : Int32))) (by decide) rfl ?_
    refine aloadN (pc' := 41) dah40 rfl rfl rfl ?_
    refine getfield (i := 68) (pc' := 44) dah41 rfl Vm rfl ?_
    refine iloadN (pc' := 45) dah44 rfl rfl ?_
    refine aloadN (pc' := 46) dah45 rfl rfl rfl ?_
    refine getfield (i := 49) (pc' := 49) dah46 rfl Om rfl ?_
    refine iadd (pc' := 50) dah49 rfl ?_
    rw [show ((0 : Int32) + (0 : Int32)) = (0 : Int32) from by decide]
    refine iaload (v := (.int x)) (pc' := 51) dah50 Am ⟨by decide, by decide⟩ rfl rfl ?_
    refine istoreN (pc' := 52) (L' := #[.val (.ref m), .val (.int (0 : Int32)), .val (.int x)]) dah51 rfl rfl ?_
    refine iloadN (pc' := 53) dah52 rfl rfl ?_
    refine ifT (pc' := 58) dah53 (hx : ¬ (x = (0 : Int32))) (by decide) rfl ?_
    refine aloadN (pc' := 59) dah58 rfl rfl rfl ?_
    refine getfield (i := 53) (pc' := 62) dah59 rfl Lm rfl ?_
    refine iconst (pc' := 63) (v := (1 : Int32)) dah62 rfl rfl ?_
    refine isub (pc' := 64) dah63 rfl ?_
    rw [show ((2 : Int32) - (1 : Int32)) = (1 : Int32) from by decide]
    refine iloadN (pc' := 65) dah64 rfl rfl ?_
    refine isub (pc' := 66) dah65 rfl ?_
    rw [show ((1 : Int32) - (0 : Int32)) = (1 : Int32) from by decide]
    refine iconst (pc' := 67) (v := (5 : Int32)) dah66 rfl rfl ?_
    refine ishl (pc' := 68) dah67 rfl ?_
    rw [show ((1 : Int32) <<< ((5 : Int32) &&& 31)) = (32 : Int32) from by decide]
    refine iloadN (pc' := 69) dah68 rfl rfl ?_
    refine callJP (v := .int (Jvm.Free.JP.Integer_numberOfTrailingZeros_I.val x)) (pc' := 72) (kStatic (i := 94) (i2 := 95) (i3 := 96) (i4 := 97) (argsL := [(.int x)]) (S' := [(.int (32 : Int32))]) (Wd := 1) dah69 rfl rfl rfl rfl (by decide) rfl pd_2 rfl rfl (Nat.le_of_ble_eq_true rfl)) (fun hZ hw => Jvm.Free.JP.Integer_numberOfTrailingZeros_I.pays (W := 1) x (own_ntz hZ hw) (by decide) (by decide)) (fun _ => And.intro rfl trivial) (by decide) (by decide) rfl ?_
    refine iadd (pc' := 73) dah72 rfl ?_
    obtain ⟨z, hz, hl, ez⟩ := ntz_ex x hx
    rw [ez]
    rw [show (32 : Int32) + Int32.ofNat z = Int32.ofNat (32 + z) from (Int32.ofNat_add 32 z).symm]
    exact retI dah73 rfl (Or.inl rfl) rfl (by decide) (by decide) ⟨_, rfl, Or.inl ⟨q0, z, hz, hl, rfl⟩, rfl⟩
set_option maxRecDepth 65536 in
set_option maxHeartbeats 40000000 in
theorem rm_prs11 (l : Launch) (Z : State) (a0 : Array Value) (hw : ∀ d ∈ tables_1, d.before a0 Z = true) (hEL : EW Z a0 []) (n0 : Nat) (m t : Addr) (x n : Int32) (h : Heap)  (Hm : MB Z h m t 0 1 [x]) :
    Met l true Z [] n0 (⟨"java/math/MutableBigInteger", "primitiveRightShift", "(I)V"⟩ : MethodName) jdk_2101_method_41_code 7 none ({ frames := 0, cells := 0, slots := 0, locals := 0 } : Room) [] #[(.ref m), (.int n)] [t] h (fun v h' => v = none ∧ Keep h h' [t] ∧ MB Z h' m t 0 1 [((x.toUInt32 >>> (n &&& 31).toUInt32).toInt32)]) := by
  refine Met.of_body (a0 := a0) (L0 := #[.val (.ref m), .val (.int n), .unset, .unset, .unset, .unset, .unset]) (plainFor_of_name (by first | (simp [plainName, overriddenIn]; done) | decide +kernel)) (fun m => by first | rfl | (simp [entryFrame, mkF, argsToLocals, Value.category]; done)) hw hEL (by decide) ?_
  have K : Keep h h [t] := Keep.refl _ _
  obtain ⟨Em, Vm, Om, Lm, km, Am⟩ := id Hm
  have Am : Arv Z h t km .int (1 : Int32) [(.int x)] (.int (0 : Int32)) := Am
  have ne_m_t : m ≠ t := Em.neArv Am (hw _ (List.mem_of_getElem? (i := 42) rfl))
  refine aloadN (pc' := 1) dai0 rfl rfl rfl ?_
  refine getfield (i := 68) (pc' := 4) dai1 rfl Vm rfl ?_
  refine astoreN (pc' := 5) (L' := #[.val (.ref m), .val (.int n), .val (.ref t), .unset, .unset, .unset, .unset]) dai4 rfl rfl rfl ?_
  refine bipush (pc' := 7) (v := (32 : Int32)) dai5 rfl rfl ?_
  refine iloadN (pc' := 8) dai7 rfl rfl ?_
  refine isub (pc' := 9) dai8 rfl ?_
  refine istoreN (pc' := 10) (L' := #[.val (.ref m), .val (.int n), .val (.ref t), .val (.int ((32 : Int32) - n)), .unset, .unset, .unset]) dai9 rfl rfl ?_
  refine aloadN (pc' := 11) dai10 rfl rfl rfl ?_
  refine getfield (i := 49) (pc' := 14) dai11 rfl Om rfl ?_
  refine aloadN (pc' := 15) dai14 rfl rfl rfl ?_
  refine getfield (i := 53) (pc' := 18) dai15 rfl Lm rfl ?_
  refine iadd (pc' := 19) dai18 rfl ?_
  rw [show ((0 : Int32) + (1 : Int32)) = (1 : Int32) from by decide]
  refine iconst (pc' := 20) (v := (1 : Int32)) dai19 rfl rfl ?_
  refine isub (pc' := 21) dai20 rfl ?_
  rw [show ((1 : Int32) - (1 : Int32)) = (0 : Int32) from by decide]
  refine istore (pc' := 23) (L' := #[.val (.ref m), .val (.int n), .val (.ref t), .val (.int ((32 : Int32) - n)), .val (.int (0 : Int32)), .unset, .unset]) dai21 rfl rfl ?_
  refine aloadN (pc' := 24) dai23 rfl rfl rfl ?_
  refine iload (pc' := 26) dai24 rfl rfl ?_
  refine iaload (v := (.int x)) (pc' := 27) dai26 Am ⟨by decide, by decide⟩ rfl rfl ?_
  refine istore (pc' := 29) (L' := #[.val (.ref m), .val (.int n), .val (.ref t), .val (.int ((32 : Int32) - n)), .val (.int (0 : Int32)), .val (.int x), .unset]) dai27 rfl rfl ?_
  refine iload (pc' := 31) dai29 rfl rfl ?_
  refine aloadN (pc' := 32) dai31 rfl rfl rfl ?_
  refine getfield (i := 49) (pc' := 35) dai32 rfl Om rfl ?_
  refine icmpT (pc' := 69) dai35 (by decide : ¬ ((0 : Int32) < (0 : Int32))) (by decide) rfl ?_
  refine aloadN (pc' := 70) dai69 rfl rfl rfl ?_
  refine aloadN (pc' := 71) dai70 rfl rfl rfl ?_
  refine getfield (i := 49) (pc' := 74) dai71 rfl Om rfl ?_
  refine dup2 (pc' := 75) dai74 rfl rfl rfl ?_
  refine iaload (v := (.int x)) (pc' := 76) dai75 Am ⟨by decide, by decide⟩ rfl rfl ?_
  refine iloadN (pc' := 77) dai76 rfl rfl ?_
  refine iushr (pc' := 78) dai77 rfl ?_
  refine iastore (pc' := 79) dai78 Am ⟨by decide, by decide⟩ (by simp) (Nat.le_of_ble_eq_true rfl) rfl fun h65 W66 V67 => ?_
  replace K := K.wr W66 (Or.inl (by simp))
  replace Em := Em.wr W66
  replace Vm := Vm.other W66 (Or.inl ne_m_t)
  replace Om := Om.other W66 (Or.inl ne_m_t)
  replace Lm := Lm.other W66 (Or.inl ne_m_t)
  replace Am : Arv Z h65 t km .int (1 : Int32) [(.int ((x.toUInt32 >>> (n &&& 31).toUInt32).toInt32))] (.int (0 : Int32)) := V67
  exact retV dai79 rfl (by decide) (by decide) ⟨rfl, K, ⟨Em, Vm, Om, Lm, km, Am⟩⟩
set_option maxRecDepth 65536 in
set_option maxHeartbeats 40000000 in
theorem rm_prs12 (l : Launch) (Z : State) (a0 : Array Value) (hw : ∀ d ∈ tables_1, d.before a0 Z = true) (hEL : EW Z a0 []) (n0 : Nat) (m t : Addr) (x w n : Int32) (h : Heap)  (Hm : MB Z h m t 0 1 [x, w]) :
    Met l true Z [] n0 (⟨"java/math/MutableBigInteger", "primitiveRightShift", "(I)V"⟩ : MethodName) jdk_2101_method_41_code 7 none ({ frames := 0, cells := 0, slots := 0, locals := 0 } : Room) [] #[(.ref m), (.int n)] [t] h (fun v h' => v = none ∧ Keep h h' [t] ∧ MB Z h' m t 0 1 [((x.toUInt32 >>> (n &&& 31).toUInt32).toInt32), w]) := by
  refine Met.of_body (a0 := a0) (L0 := #[.val (.ref m), .val (.int n), .unset, .unset, .unset, .unset, .unset]) (plainFor_of_name (by first | (simp [plainName, overriddenIn]; done) | decide +kernel)) (fun m => by first | rfl | (simp [entryFrame, mkF, argsToLocals, Value.category]; done)) hw hEL (by decide) ?_
  have K : Keep h h [t] := Keep.refl _ _
  obtain ⟨Em, Vm, Om, Lm, km, Am⟩ := id Hm
  have Am : Arv Z h t km .int (2 : Int32) [(.int x), (.int w)] (.int (0 : Int32)) := Am
  have ne_m_t : m ≠ t := Em.neArv Am (hw _ (List.mem_of_getElem? (i := 42) rfl))
  refine aloadN (pc' := 1) dai0 rfl rfl rfl ?_
  refine getfield (i := 68) (pc' := 4) dai1 rfl Vm rfl ?_
  refine astoreN (pc' := 5) (L' := #[.val (.ref m), .val (.int n), .val (.ref t), .unset, .unset, .unset, .unset]) dai4 rfl rfl rfl ?_
  refine bipush (pc' := 7) (v := (32 : Int32)) dai5 rfl rfl ?_
  refine iloadN (pc' := 8) dai7 rfl rfl ?_
  refine isub (pc' := 9) dai8 rfl ?_
  refine istoreN (pc' := 10) (L' := #[.val (.ref m), .val (.int n), .val (.ref t), .val (.int ((32 : Int32) - n)), .unset, .unset, .unset]) dai9 rfl rfl ?_
  refine aloadN (pc' := 11) dai10 rfl rfl rfl ?_
  refine getfield (i := 49) (pc' := 14) dai11 rfl Om rfl ?_
  refine aloadN (pc' := 15) dai14 rfl rfl rfl ?_
  refine getfield (i := 53) (pc' := 18) dai15 rfl Lm rfl ?_
  refine iadd (pc' := 19) dai18 rfl ?_
  rw [show ((0 : Int32) + (1 : Int32)) = (1 : Int32) from by decide]
  refine iconst (pc' := 20) (v := (1 : Int32)) dai19 rfl rfl ?_
  refine isub (pc' := 21) dai20 rfl ?_
  rw [show ((1 : Int32) - (1 : Int32)) = (0 : Int32) from by decide]
  refine istore (pc' := 23) (L' := #[.val (.ref m), .val (.int n), .val (.ref t), .val (.int ((32 : Int32) - n)), .val (.int (0 : Int32)), .unset, .unset]) dai21 rfl rfl ?_
  refine aloadN (pc' := 24) dai23 rfl rfl rfl ?_
  refine iload (pc' := 26) dai24 rfl rfl ?_
  refine iaload (v := (.int x)) (pc' := 27) dai26 Am ⟨by decide, by decide⟩ rfl rfl ?_
  refine istore (pc' := 29) (L' := #[.val (.ref m), .val (.int n), .val (.ref t), .val (.int ((32 : Int32) - n)), .val (.int (0 : Int32)), .val (.int x), .unset]) dai27 rfl rfl ?_
  refine iload (pc' := 31) dai29 rfl rfl ?_
  refine aloadN (pc' := 32) dai31 rfl rfl rfl ?_
  refine getfield (i := 49) (pc' := 35) dai32 rfl Om rfl ?_
  refine icmpT (pc' := 69) dai35 (by decide : ¬ ((0 : Int32) < (0 : Int32))) (by decide) rfl ?_
  refine aloadN (pc' := 70) dai69 rfl rfl rfl ?_
  refine aloadN (pc' := 71) dai70 rfl rfl rfl ?_
  refine getfield (i := 49) (pc' := 74) dai71 rfl Om rfl ?_
  refine dup2 (pc' := 75) dai74 rfl rfl rfl ?_
  refine iaload (v := (.int x)) (pc' := 76) dai75 Am ⟨by decide, by decide⟩ rfl rfl ?_
  refine iloadN (pc' := 77) dai76 rfl rfl ?_
  refine iushr (pc' := 78) dai77 rfl ?_
  refine iastore (pc' := 79) dai78 Am ⟨by decide, by decide⟩ (by simp) (Nat.le_of_ble_eq_true rfl) rfl fun h68 W69 V70 => ?_
  replace K := K.wr W69 (Or.inl (by simp))
  replace Em := Em.wr W69
  replace Vm := Vm.other W69 (Or.inl ne_m_t)
  replace Om := Om.other W69 (Or.inl ne_m_t)
  replace Lm := Lm.other W69 (Or.inl ne_m_t)
  replace Am : Arv Z h68 t km .int (2 : Int32) [(.int ((x.toUInt32 >>> (n &&& 31).toUInt32).toInt32)), (.int w)] (.int (0 : Int32)) := V70
  exact retV dai79 rfl (by decide) (by decide) ⟨rfl, K, ⟨Em, Vm, Om, Lm, km, Am⟩⟩
set_option maxRecDepth 65536 in
set_option maxHeartbeats 40000000 in
theorem rm_prs2 (l : Launch) (Z : State) (a0 : Array Value) (hw : ∀ d ∈ tables_1, d.before a0 Z = true) (hEL : EW Z a0 []) (n0 : Nat) (m t : Addr) (x y n : Int32) (h : Heap)  (Hm : MB Z h m t 0 2 [x, y]) :
    Met l true Z [] n0 (⟨"java/math/MutableBigInteger", "primitiveRightShift", "(I)V"⟩ : MethodName) jdk_2101_method_41_code 7 none ({ frames := 0, cells := 0, slots := 0, locals := 0 } : Room) [] #[(.ref m), (.int n)] [t] h (fun v h' => v = none ∧ Keep h h' [t] ∧ MB Z h' m t 0 2 [((x.toUInt32 >>> (n &&& 31).toUInt32).toInt32), ((x <<< (((32 : Int32) - n) &&& 31)) ||| ((y.toUInt32 >>> (n &&& 31).toUInt32).toInt32))]) := by
  refine Met.of_body (a0 := a0) (L0 := #[.val (.ref m), .val (.int n), .unset, .unset, .unset, .unset, .unset]) (plainFor_of_name (by first | (simp [plainName, overriddenIn]; done) | decide +kernel)) (fun m => by first | rfl | (simp [entryFrame, mkF, argsToLocals, Value.category]; done)) hw hEL (by decide) ?_
  have K : Keep h h [t] := Keep.refl _ _
  obtain ⟨Em, Vm, Om, Lm, km, Am⟩ := id Hm
  have Am : Arv Z h t km .int (2 : Int32) [(.int x), (.int y)] (.int (0 : Int32)) := Am
  have ne_m_t : m ≠ t := Em.neArv Am (hw _ (List.mem_of_getElem? (i := 42) rfl))
  refine aloadN (pc' := 1) dai0 rfl rfl rfl ?_
  refine getfield (i := 68) (pc' := 4) dai1 rfl Vm rfl ?_
  refine astoreN (pc' := 5) (L' := #[.val (.ref m), .val (.int n), .val (.ref t), .unset, .unset, .unset, .unset]) dai4 rfl rfl rfl ?_
  refine bipush (pc' := 7) (v := (32 : Int32)) dai5 rfl rfl ?_
  refine iloadN (pc' := 8) dai7 rfl rfl ?_
  refine isub (pc' := 9) dai8 rfl ?_
  refine istoreN (pc' := 10) (L' := #[.val (.ref m), .val (.int n), .val (.ref t), .val (.int ((32 : Int32) - n)), .unset, .unset, .unset]) dai9 rfl rfl ?_
  refine aloadN (pc' := 11) dai10 rfl rfl rfl ?_
  refine getfield (i := 49) (pc' := 14) dai11 rfl Om rfl ?_
  refine aloadN (pc' := 15) dai14 rfl rfl rfl ?_
  refine getfield (i := 53) (pc' := 18) dai15 rfl Lm rfl ?_
  refine iadd (pc' := 19) dai18 rfl ?_
  rw [show ((0 : Int32) + (2 : Int32)) = (2 : Int32) from by decide]
  refine iconst (pc' := 20) (v := (1 : Int32)) dai19 rfl rfl ?_
  refine isub (pc' := 21) dai20 rfl ?_
  rw [show ((2 : Int32) - (1 : Int32)) = (1 : Int32) from by decide]
  refine istore (pc' := 23) (L' := #[.val (.ref m), .val (.int n), .val (.ref t), .val (.int ((32 : Int32) - n)), .val (.int (1 : Int32)), .unset, .unset]) dai21 rfl rfl ?_
  refine aloadN (pc' := 24) dai23 rfl rfl rfl ?_
  refine iload (pc' := 26) dai24 rfl rfl ?_
  refine iaload (v := (.int y)) (pc' := 27) dai26 Am ⟨by decide, by decide⟩ rfl rfl ?_
  refine istore (pc' := 29) (L' := #[.val (.ref m), .val (.int n), .val (.ref t), .val (.int ((32 : Int32) - n)), .val (.int (1 : Int32)), .val (.int y), .unset]) dai27 rfl rfl ?_
  refine iload (pc' := 31) dai29 rfl rfl ?_
  refine aloadN (pc' := 32) dai31 rfl rfl rfl ?_
  refine getfield (i := 49) (pc' := 35) dai32 rfl Om rfl ?_
  refine icmpF (pc' := 38) dai35 (by decide : (0 : Int32) < (1 : Int32)) rfl ?_
  refine iload (pc' := 40) dai38 rfl rfl ?_
  refine istore (pc' := 42) (L' := #[.val (.ref m), .val (.int n), .val (.ref t), .val (.int ((32 : Int32) - n)), .val (.int (1 : Int32)), .val (.int y), .val (.int y)]) dai40 rfl rfl ?_
  refine aloadN (pc' := 43) dai42 rfl rfl rfl ?_
  refine iload (pc' := 45) dai43 rfl rfl ?_
  refine iconst (pc' := 46) (v := (1 : Int32)) dai45 rfl rfl ?_
  refine isub (pc' := 47) dai46 rfl ?_
  rw [show ((1 : Int32) - (1 : Int32)) = (0 : Int32) from by decide]
  refine iaload (v := (.int x)) (pc' := 48) dai47 Am ⟨by decide, by decide⟩ rfl rfl ?_
  refine istore (pc' := 50) (L' := #[.val (.ref m), .val (.int n), .val (.ref t), .val (.int ((32 : Int32) - n)), .val (.int (1 : Int32)), .val (.int x), .val (.int y)]) dai48 rfl rfl ?_
  refine aloadN (pc' := 51) dai50 rfl rfl rfl ?_
  refine iload (pc' := 53) dai51 rfl rfl ?_
  refine iload (pc' := 55) dai53 rfl rfl ?_
  refine iloadN (pc' := 56) dai55 rfl rfl ?_
  refine ishl (pc' := 57) dai56 rfl ?_
  refine iload (pc' := 59) dai57 rfl rfl ?_
  refine iloadN (pc' := 60) dai59 rfl rfl ?_
  refine iushr (pc' := 61) dai60 rfl ?_
  refine ior (pc' := 62) dai61 rfl ?_
  refine iastore (pc' := 63) dai62 Am ⟨by decide, by decide⟩ (by simp) (Nat.le_of_ble_eq_true rfl) rfl fun h71 W72 V73 => ?_
  replace K := K.wr W72 (Or.inl (by simp))
  replace Em := Em.wr W72
  replace Vm := Vm.other W72 (Or.inl ne_m_t)
  replace Om := Om.other W72 (Or.inl ne_m_t)
  replace Lm := Lm.other W72 (Or.inl ne_m_t)
  replace Am : Arv Z h71 t km .int (2 : Int32) [(.int x), (.int ((x <<< (((32 : Int32) - n) &&& 31)) ||| ((y.toUInt32 >>> (n &&& 31).toUInt32).toInt32)))] (.int (0 : Int32)) := V73
  refine iinc (pc' := 66) (v := (0 : Int32)) (L' := #[.val (.ref m), .val (.int n), .val (.ref t), .val (.int ((32 : Int32) - n)), .val (.int (0 : Int32)), .val (.int x), .val (.int y)]) dai63 rfl rfl rfl rfl ?_
  refine goto (pc' := 29) dai66 (by decide) rfl ?_
  refine iload (pc' := 31) dai29 rfl rfl ?_
  refine aloadN (pc' := 32) dai31 rfl rfl rfl ?_
  refine getfield (i := 49) (pc' := 35) dai32 rfl Om rfl ?_
  refine icmpT (pc' := 69) dai35 (by decide : ¬ ((0 : Int32) < (0 : Int32))) (by decide) rfl ?_
  refine aloadN (pc' := 70) dai69 rfl rfl rfl ?_
  refine aloadN (pc' := 71) dai70 rfl rfl rfl ?_
  refine getfield (i := 49) (pc' := 74) dai71 rfl Om rfl ?_
  refine dup2 (pc' := 75) dai74 rfl rfl rfl ?_
  refine iaload (v := (.int x)) (pc' := 76) dai75 Am ⟨by decide, by decide⟩ rfl rfl ?_
  refine iloadN (pc' := 77) dai76 rfl rfl ?_
  refine iushr (pc' := 78) dai77 rfl ?_
  refine iastore (pc' := 79) dai78 Am ⟨by decide, by decide⟩ (by simp) (Nat.le_of_ble_eq_true rfl) rfl fun h74 W75 V76 => ?_
  replace K := K.wr W75 (Or.inl (by simp))
  replace Em := Em.wr W75
  replace Vm := Vm.other W75 (Or.inl ne_m_t)
  replace Om := Om.other W75 (Or.inl ne_m_t)
  replace Lm := Lm.other W75 (Or.inl ne_m_t)
  replace Am : Arv Z h74 t km .int (2 : Int32) [(.int ((x.toUInt32 >>> (n &&& 31).toUInt32).toInt32)), (.int ((x <<< (((32 : Int32) - n) &&& 31)) ||| ((y.toUInt32 >>> (n &&& 31).toUInt32).toInt32)))] (.int (0 : Int32)) := V76
  exact retV dai79 rfl (by decide) (by decide) ⟨rfl, K, ⟨Em, Vm, Om, Lm, km, Am⟩⟩
set_option maxRecDepth 65536 in
set_option maxHeartbeats 40000000 in
theorem rm_pls2 (l : Launch) (Z : State) (a0 : Array Value) (hw : ∀ d ∈ tables_1, d.before a0 Z = true) (hEL : EW Z a0 []) (n0 : Nat) (m t : Addr) (x y n : Int32) (h : Heap)  (Hm : MB Z h m t 0 2 [x, y]) :
    Met l true Z [] n0 (⟨"java/math/MutableBigInteger", "primitiveLeftShift", "(I)V"⟩ : MethodName) jdk_2101_method_42_code 8 none ({ frames := 0, cells := 0, slots := 0, locals := 0 } : Room) [] #[(.ref m), (.int n)] [t] h (fun v h' => v = none ∧ Keep h h' [t] ∧ MB Z h' m t 0 2 [((x <<< (n &&& 31)) ||| ((y.toUInt32 >>> (((32 : Int32) - n) &&& 31).toUInt32).toInt32)), (y <<< (n &&& 31))]) := by
  refine Met.of_body (a0 := a0) (L0 := #[.val (.ref m), .val (.int n), .unset, .unset, .unset, .unset, .unset, .unset]) (plainFor_of_name (by first | (simp [plainName, overriddenIn]; done) | decide +kernel)) (fun m => by first | rfl | (simp [entryFrame, mkF, argsToLocals, Value.category]; done)) hw hEL (by decide) ?_
  have K : Keep h h [t] := Keep.refl _ _
  obtain ⟨Em, Vm, Om, Lm, km, Am⟩ := id Hm
  have Am : Arv Z h t km .int (2 : Int32) [(.int x), (.int y)] (.int (0 : Int32)) := Am
  have ne_m_t : m ≠ t := Em.neArv Am (hw _ (List.mem_of_getElem? (i := 42) rfl))
  refine aloadN (pc' := 1) daj0 rfl rfl rfl ?_
  refine getfield (i := 68) (pc' := 4) daj1 rfl Vm rfl ?_
  refine astoreN (pc' := 5) (L' := #[.val (.ref m), .val (.int n), .val (.ref t), .unset, .unset, .unset, .unset, .unset]) daj4 rfl rfl rfl ?_
  refine bipush (pc' := 7) (v := (32 : Int32)) daj5 rfl rfl ?_
  refine iloadN (pc' := 8) daj7 rfl rfl ?_
  refine isub (pc' := 9) daj8 rfl ?_
  refine istoreN (pc' := 10) (L' := #[.val (.ref m), .val (.int n), .val (.ref t), .val (.int ((32 : Int32) - n)), .unset, .unset, .unset, .unset]) daj9 rfl rfl ?_
  refine aloadN (pc' := 11) daj10 rfl rfl rfl ?_
  refine getfield (i := 49) (pc' := 14) daj11 rfl Om rfl ?_
  refine istore (pc' := 16) (L' := #[.val (.ref m), .val (.int n), .val (.ref t), .val (.int ((32 : Int32) - n)), .val (.int (0 : Int32)), .unset, .unset, .unset]) daj14 rfl rfl ?_
  refine aloadN (pc' := 17) daj16 rfl rfl rfl ?_
  refine iload (pc' := 19) daj17 rfl rfl ?_
  refine iaload (v := (.int x)) (pc' := 20) daj19 Am ⟨by decide, by decide⟩ rfl rfl ?_
  refine istore (pc' := 22) (L' := #[.val (.ref m), .val (.int n), .val (.ref t), .val (.int ((32 : Int32) - n)), .val (.int (0 : Int32)), .val (.int x), .unset, .unset]) daj20 rfl rfl ?_
  refine iload (pc' := 24) daj22 rfl rfl ?_
  refine aloadN (pc' := 25) daj24 rfl rfl rfl ?_
  refine getfield (i := 53) (pc' := 28) daj25 rfl Lm rfl ?_
  refine iadd (pc' := 29) daj28 rfl ?_
  rw [show ((0 : Int32) + (2 : Int32)) = (2 : Int32) from by decide]
  refine iconst (pc' := 30) (v := (1 : Int32)) daj29 rfl rfl ?_
  refine isub (pc' := 31) daj30 rfl ?_
  rw [show ((2 : Int32) - (1 : Int32)) = (1 : Int32) from by decide]
  refine istore (pc' := 33) (L' := #[.val (.ref m), .val (.int n), .val (.ref t), .val (.int ((32 : Int32) - n)), .val (.int (0 : Int32)), .val (.int x), .val (.int (1 : Int32)), .unset]) daj31 rfl rfl ?_
  refine iload (pc' := 35) daj33 rfl rfl ?_
  refine iload (pc' := 37) daj35 rfl rfl ?_
  refine icmpF (pc' := 40) daj37 (by decide : (0 : Int32) < (1 : Int32)) rfl ?_
  refine iload (pc' := 42) daj40 rfl rfl ?_
  refine istore (pc' := 44) (L' := #[.val (.ref m), .val (.int n), .val (.ref t), .val (.int ((32 : Int32) - n)), .val (.int (0 : Int32)), .val (.int x), .val (.int (1 : Int32)), .val (.int x)]) daj42 rfl rfl ?_
  refine aloadN (pc' := 45) daj44 rfl rfl rfl ?_
  refine iload (pc' := 47) daj45 rfl rfl ?_
  refine iconst (pc' := 48) (v := (1 : Int32)) daj47 rfl rfl ?_
  refine iadd (pc' := 49) daj48 rfl ?_
  rw [show ((0 : Int32) + (1 : Int32)) = (1 : Int32) from by decide]
  refine iaload (v := (.int y)) (pc' := 50) daj49 Am ⟨by decide, by decide⟩ rfl rfl ?_
  refine istore (pc' := 52) (L' := #[.val (.ref m), .val (.int n), .val (.ref t), .val (.int ((32 : Int32) - n)), .val (.int (0 : Int32)), .val (.int y), .val (.int (1 : Int32)), .val (.int x)]) daj50 rfl rfl ?_
  refine aloadN (pc' := 53) daj52 rfl rfl rfl ?_
  refine iload (pc' := 55) daj53 rfl rfl ?_
  refine iload (pc' := 57) daj55 rfl rfl ?_
  refine iloadN (pc' := 58) daj57 rfl rfl ?_
  refine ishl (pc' := 59) daj58 rfl ?_
  refine iload (pc' := 61) daj59 rfl rfl ?_
  refine iloadN (pc' := 62) daj61 rfl rfl ?_
  refine iushr (pc' := 63) daj62 rfl ?_
  refine ior (pc' := 64) daj63 rfl ?_
  refine iastore (pc' := 65) daj64 Am ⟨by decide, by decide⟩ (by simp) (Nat.le_of_ble_eq_true rfl) rfl fun h77 W78 V79 => ?_
  replace K := K.wr W78 (Or.inl (by simp))
  replace Em := Em.wr W78
  replace Vm := Vm.other W78 (Or.inl ne_m_t)
  replace Om := Om.other W78 (Or.inl ne_m_t)
  replace Lm := Lm.other W78 (Or.inl ne_m_t)
  replace Am : Arv Z h77 t km .int (2 : Int32) [(.int ((x <<< (n &&& 31)) ||| ((y.toUInt32 >>> (((32 : Int32) - n) &&& 31).toUInt32).toInt32))), (.int y)] (.int (0 : Int32)) := V79
  refine iinc (pc' := 68) (v := (1 : Int32)) (L' := #[.val (.ref m), .val (.int n), .val (.ref t), .val (.int ((32 : Int32) - n)), .val (.int (1 : Int32)), .val (.int y), .val (.int (1 : Int32)), .val (.int x)]) daj65 rfl rfl rfl rfl ?_
  refine goto (pc' := 33) daj68 (by decide) rfl ?_
  refine iload (pc' := 35) daj33 rfl rfl ?_
  refine iload (pc' := 37) daj35 rfl rfl ?_
  refine icmpT (pc' := 71) daj37 (by decide : ¬ ((1 : Int32) < (1 : Int32))) (by decide) rfl ?_
  refine aloadN (pc' := 72) daj71 rfl rfl rfl ?_
  refine aloadN (pc' := 73) daj72 rfl rfl rfl ?_
  refine getfield (i := 49) (pc' := 76) daj73 rfl Om rfl ?_
  refine aloadN (pc' := 77) daj76 rfl rfl rfl ?_
  refine getfield (i := 53) (pc' := 80) daj77 rfl Lm rfl ?_
  refine iadd (pc' := 81) daj80 rfl ?_
  rw [show ((0 : Int32) + (2 : Int32)) = (2 : Int32) from by decide]
  refine iconst (pc' := 82) (v := (1 : Int32)) daj81 rfl rfl ?_
  refine isub (pc' := 83) daj82 rfl ?_
  rw [show ((2 : Int32) - (1 : Int32)) = (1 : Int32) from by decide]
  refine dup2 (pc' := 84) daj83 rfl rfl rfl ?_
  refine iaload (v := (.int y)) (pc' := 85) daj84 Am ⟨by decide, by decide⟩ rfl rfl ?_
  refine iloadN (pc' := 86) daj85 rfl rfl ?_
  refine ishl (pc' := 87) daj86 rfl ?_
  refine iastore (pc' := 88) daj87 Am ⟨by decide, by decide⟩ (by simp) (Nat.le_of_ble_eq_true rfl) rfl fun h80 W81 V82 => ?_
  replace K := K.wr W81 (Or.inl (by simp))
  replace Em := Em.wr W81
  replace Vm := Vm.other W81 (Or.inl ne_m_t)
  replace Om := Om.other W81 (Or.inl ne_m_t)
  replace Lm := Lm.other W81 (Or.inl ne_m_t)
  replace Am : Arv Z h80 t km .int (2 : Int32) [(.int ((x <<< (n &&& 31)) ||| ((y.toUInt32 >>> (((32 : Int32) - n) &&& 31).toUInt32).toInt32))), (.int (y <<< (n &&& 31)))] (.int (0 : Int32)) := V82
  exact retV daj88 rfl (by decide) (by decide) ⟨rfl, K, ⟨Em, Vm, Om, Lm, km, Am⟩⟩
set_option maxRecDepth 65536 in
set_option maxHeartbeats 40000000 in
theorem rm_rs0 (l : Launch) (Z : State) (a0 : Array Value) (hw : ∀ d ∈ tables_1, d.before a0 Z = true) (hEL : EW Z a0 []) (n0 : Nat) (m t : Addr) (x : Int32) (h : Heap)  (Hm : MB Z h m t 0 1 [x]) :
    Met l true Z [] n0 (⟨"java/math/MutableBigInteger", "rightShift", "(I)V"⟩ : MethodName) jdk_2101_method_35_code 5 none ({ frames := 2, cells := 0, slots := 0, locals := 40 } : Room) [] #[(.ref m), (.int (0 : Int32))] [m, t] h (fun v h' => v = none ∧ Keep h h' [m, t] ∧ MB Z h' m t 0 1 [x]) := by
  refine Met.of_body (a0 := a0) (L0 := #[.val (.ref m), .val (.int (0 : Int32)), .unset, .unset, .unset]) (plainFor_of_name (by first | (simp [plainName, overriddenIn]; done) | decide +kernel)) (fun m => by first | rfl | (simp [entryFrame, mkF, argsToLocals, Value.category]; done)) hw hEL (by decide) ?_
  have K : Keep h h [m, t] := Keep.refl _ _
  obtain ⟨Em, Vm, Om, Lm, km, Am⟩ := id Hm
  have Am : Arv Z h t km .int (1 : Int32) [(.int x)] (.int (0 : Int32)) := Am
  have ne_m_t : m ≠ t := Em.neArv Am (hw _ (List.mem_of_getElem? (i := 42) rfl))
  refine aloadN (pc' := 1) dak0 rfl rfl rfl ?_
  refine getfield (i := 53) (pc' := 4) dak1 rfl Lm rfl ?_
  refine ifT (pc' := 8) dak4 (by decide : ¬ ((1 : Int32) = (0 : Int32))) (by decide) rfl ?_
  refine iloadN (pc' := 9) dak8 rfl rfl ?_
  refine iconst (pc' := 10) (v := (5 : Int32)) dak9 rfl rfl ?_
  refine iushr (pc' := 11) dak10 rfl ?_
  rw [show (((0 : Int32).toUInt32 >>> ((5 : Int32) &&& 31).toUInt32).toInt32) = (0 : Int32) from by decide]
  refine istoreN (pc' := 12) (L' := #[.val (.ref m), .val (.int (0 : Int32)), .val (.int (0 : Int32)), .unset, .unset]) dak11 rfl rfl ?_
  refine iloadN (pc' := 13) dak12 rfl rfl ?_
  refine bipush (pc' := 15) (v := (31 : Int32)) dak13 rfl rfl ?_
  refine iand (pc' := 16) dak15 rfl ?_
  rw [show ((0 : Int32) &&& (31 : Int32)) = (0 : Int32) from by decide]
  refine istoreN (pc' := 17) (L' := #[.val (.ref m), .val (.int (0 : Int32)), .val (.int (0 : Int32)), .val (.int (0 : Int32)), .unset]) dak16 rfl rfl ?_
  refine aloadN (pc' := 18) dak17 rfl rfl rfl ?_
  refine dup (pc' := 19) dak18 rfl rfl ?_
  refine getfield (i := 53) (pc' := 22) dak19 rfl Lm rfl ?_
  refine iloadN (pc' := 23) dak22 rfl rfl ?_
  refine isub (pc' := 24) dak23 rfl ?_
  rw [show ((1 : Int32) - (0 : Int32)) = (1 : Int32) from by decide]
  refine putfield (i := 53) (i2 := 54) (i3 := 42) (pc' := 27) (v' := (.int (1 : Int32))) (ty := .int) dak24 rfl (Or.inl rfl) rfl Lm Em (by decide) rfl rfl (by simp) rfl fun h83 W84 => ?_
  replace K := K.wr W84 (Or.inl (by simp))
  replace Em := Em.wr W84
  replace Vm := Vm.other W84 (Or.inr (slot_ne (Or.inl (hw _ (List.mem_of_getElem? (i := 69) rfl))) (Or.inl (hw _ (List.mem_of_getElem? (i := 54) rfl))) (by decide) (t := (.array .int)) (t' := .int) (by decide) (by decide)))
  replace Om := Om.other W84 (Or.inr (slot_ne (Or.inl (hw _ (List.mem_of_getElem? (i := 50) rfl))) (Or.inl (hw _ (List.mem_of_getElem? (i := 54) rfl))) (by decide) (t := .int) (t' := .int) (by decide) (by decide)))
  replace Lm := Lm.same W84
  replace Am := Am.other W84 (Ne.symm ne_m_t)
  refine iloadN (pc' := 28) dak27 rfl rfl ?_
  refine ifF (pc' := 31) dak28 (rfl : (0 : Int32) = (0 : Int32)) rfl ?_
  exact retV dak31 rfl (by decide) (by decide) ⟨rfl, K, ⟨Em, Vm, Om, Lm, km, Am⟩⟩
set_option maxRecDepth 65536 in
set_option maxHeartbeats 40000000 in
theorem rm_rs11 (l : Launch) (Z : State) (a0 : Array Value) (hw : ∀ d ∈ tables_1, d.before a0 Z = true) (hEL : EW Z a0 []) (n0 : Nat) (m t : Addr) (x : Int32) (z : Nat) (h : Heap)  (Hm : MB Z h m t 0 1 [x]) (hx : ¬ x = 0) (h1 : 1 ≤ z) (hz : z < 32) (hl : Jvm.Free.JM.Low (un x) z) :
    Met l true Z [] n0 (⟨"java/math/MutableBigInteger", "rightShift", "(I)V"⟩ : MethodName) jdk_2101_method_35_code 5 none ({ frames := 2, cells := 0, slots := 0, locals := 40 } : Room) [] #[(.ref m), (.int (Int32.ofNat z))] [m, t] h (fun v h' => v = none ∧ Keep h h' [m, t] ∧ ∃ x' : Int32, un x' % 2 = 1 ∧ MB Z h' m t 0 1 [x']) := by
  refine Met.of_body (a0 := a0) (L0 := #[.val (.ref m), .val (.int (Int32.ofNat z)), .unset, .unset, .unset]) (plainFor_of_name (by first | (simp [plainName, overriddenIn]; done) | decide +kernel)) (fun m => by first | rfl | (simp [entryFrame, mkF, argsToLocals, Value.category]; done)) hw hEL (by decide) ?_
  have K : Keep h h [m, t] := Keep.refl _ _
  obtain ⟨Em, Vm, Om, Lm, km, Am⟩ := id Hm
  have Am : Arv Z h t km .int (1 : Int32) [(.int x)] (.int (0 : Int32)) := Am
  have ne_m_t : m ≠ t := Em.neArv Am (hw _ (List.mem_of_getElem? (i := 42) rfl))
  refine aloadN (pc' := 1) dak0 rfl rfl rfl ?_
  refine getfield (i := 53) (pc' := 4) dak1 rfl Lm rfl ?_
  refine ifT (pc' := 8) dak4 (by decide : ¬ ((1 : Int32) = (0 : Int32))) (by decide) rfl ?_
  refine iloadN (pc' := 9) dak8 rfl rfl ?_
  refine iconst (pc' := 10) (v := (5 : Int32)) dak9 rfl rfl ?_
  refine iushr (pc' := 11) dak10 rfl ?_
  rw [show (((Int32.ofNat z).toUInt32 >>> ((5 : Int32) &&& 31).toUInt32).toInt32) = (0 : Int32) from z_hi ⟨z, hz⟩]
  refine istoreN (pc' := 12) (L' := #[.val (.ref m), .val (.int (Int32.ofNat z)), .val (.int (0 : Int32)), .unset, .unset]) dak11 rfl rfl ?_
  refine iloadN (pc' := 13) dak12 rfl rfl ?_
  refine bipush (pc' := 15) (v := (31 : Int32)) dak13 rfl rfl ?_
  refine iand (pc' := 16) dak15 rfl ?_
  rw [show ((Int32.ofNat z) &&& (31 : Int32)) = (Int32.ofNat z) from z_lo ⟨z, hz⟩]
  refine istoreN (pc' := 17) (L' := #[.val (.ref m), .val (.int (Int32.ofNat z)), .val (.int (0 : Int32)), .val (.int (Int32.ofNat z)), .unset]) dak16 rfl rfl ?_
  refine aloadN (pc' := 18) dak17 rfl rfl rfl ?_
  refine dup (pc' := 19) dak18 rfl rfl ?_
  refine getfield (i := 53) (pc' := 22) dak19 rfl Lm rfl ?_
  refine iloadN (pc' := 23) dak22 rfl rfl ?_
  refine isub (pc' := 24) dak23 rfl ?_
  rw [show ((1 : Int32) - (0 : Int32)) = (1 : Int32) from by decide]
  refine putfield (i := 53) (i2 := 54) (i3 := 42) (pc' := 27) (v' := (.int (1 : Int32))) (ty := .int) dak24 rfl (Or.inl rfl) rfl Lm Em (by decide) rfl rfl (by simp) rfl fun h85 W86 => ?_
  replace K := K.wr W86 (Or.inl (by simp))
  replace Em := Em.wr W86
  replace Vm := Vm.other W86 (Or.inr (slot_ne (Or.inl (hw _ (List.mem_of_getElem? (i := 69) rfl))) (Or.inl (hw _ (List.mem_of_getElem? (i := 54) rfl))) (by decide) (t := (.array .int)) (t' := .int) (by decide) (by decide)))
  replace Om := Om.other W86 (Or.inr (slot_ne (Or.inl (hw _ (List.mem_of_getElem? (i := 50) rfl))) (Or.inl (hw _ (List.mem_of_getElem? (i := 54) rfl))) (by decide) (t := .int) (t' := .int) (by decide) (by decide)))
  replace Lm := Lm.same W86
  replace Am := Am.other W86 (Ne.symm ne_m_t)
  refine iloadN (pc' := 28) dak27 rfl rfl ?_
  refine ifT (pc' := 32) dak28 (fun q => absurd (z_0 ⟨z, by omega⟩ q) (by show ¬ z = 0; omega) : ¬ ((Int32.ofNat z) = (0 : Int32))) (by decide) rfl ?_
  refine aloadN (pc' := 33) dak32 rfl rfl rfl ?_
  refine getfield (i := 68) (pc' := 36) dak33 rfl Vm rfl ?_
  refine aloadN (pc' := 37) dak36 rfl rfl rfl ?_
  refine getfield (i := 49) (pc' := 40) dak37 rfl Om rfl ?_
  refine iaload (v := (.int x)) (pc' := 41) dak40 Am ⟨by decide, by decide⟩ rfl rfl ?_
  refine call (i := 235) (i2 := 8) (Wd := 0) (pc' := 44) (kStatic (i := 233) (i2 := 234) (i3 := 8) (i4 := 235) (argsL := [(.int x)]) (S' := []) (Wd := 0) dak41 rfl rfl rfl rfl (by decide) rfl pd_2 rfl rfl (Nat.le_of_ble_eq_true rfl)) (rm_bl l Z a0 hw hEL n0 x _ hx) rfl rfl (by simp) (by decide) (by decide) (by decide) (by decide) rfl fun v_ h87 P88 sz89 => ?_
  obtain ⟨b, rfl, hb1, hb2, hb3, hb4, e90⟩ := P88
  rw [e90]
  refine at' (ce' := 0) (sl' := 0) (pc' := 44) (S' := [(.int (Int32.ofNat b))]) rfl rfl rfl rfl rfl ?_
  refine istore (pc' := 46) (L' := #[.val (.ref m), .val (.int (Int32.ofNat z)), .val (.int (0 : Int32)), .val (.int (Int32.ofNat z)), .val (.int (Int32.ofNat b))]) dak44 rfl rfl ?_
  refine iloadN (pc' := 47) dak46 rfl rfl ?_
  refine iload (pc' := 49) dak47 rfl rfl ?_
  refine icmpT (pc' := 73) dak49 ((z_lt ⟨z, hz⟩ ⟨b, by omega⟩).mpr (low_lt hl hb4) : (Int32.ofNat z) < (Int32.ofNat b)) (by decide) rfl ?_
  refine aloadN (pc' := 74) dak73 rfl rfl rfl ?_
  refine iloadN (pc' := 75) dak74 rfl rfl ?_
  refine call (i := 243) (i2 := 43) (Wd := 0) (pc' := 78) (kPriv (i := 239) (i2 := 240) (i3 := 73) (i4 := 243) (i5 := 241) (a := m) (argsL := [(.int (Int32.ofNat z))]) (S' := []) (Wd := 0) dak75 rfl rfl rfl rfl rfl rfl Em (by decide) rfl pd_3 rfl rfl (Nat.le_of_ble_eq_true rfl)) (rm_prs11 l Z a0 hw hEL n0 m t x (Int32.ofNat z) _ ⟨Em, Vm, Om, Lm, km, Am⟩) rfl rfl (by simp) (by decide) (by decide) (by decide) (by decide) rfl fun v_ h91 P92 sz93 => ?_
  obtain ⟨rfl, Kp, Hp⟩ := P92
  replace K := K.trans Kp (allS (Or.inl (by simp)) all0)
  refine at' (ce' := 0) (sl' := 0) (pc' := 78) (S' := []) rfl rfl rfl rfl rfl ?_
  obtain ⟨Em, Vm, Om, Lm, km, Am⟩ := id Hp
  have Am : Arv Z h91 t km .int (1 : Int32) [(.int ((x.toUInt32 >>> ((Int32.ofNat z) &&& 31).toUInt32).toInt32))] (.int (0 : Int32)) := Am
  exact retV dak78 rfl (by decide) (by decide) ⟨rfl, K, _, by rw [un_ush x z hz]; exact hl.2, ⟨Em, Vm, Om, Lm, km, Am⟩⟩
set_option maxRecDepth 65536 in
set_option maxHeartbeats 40000000 in
theorem rm_rs12 (l : Launch) (Z : State) (a0 : Array Value) (hw : ∀ d ∈ tables_1, d.before a0 Z = true) (hEL : EW Z a0 []) (n0 : Nat) (m t : Addr) (x w : Int32) (z : Nat) (h : Heap)  (Hm : MB Z h m t 0 1 [x, w]) (hx : ¬ x = 0) (h1 : 1 ≤ z) (hz : z < 32) (hl : Jvm.Free.JM.Low (un x) z) :
    Met l true Z [] n0 (⟨"java/math/MutableBigInteger", "rightShift", "(I)V"⟩ : MethodName) jdk_2101_method_35_code 5 none ({ frames := 2, cells := 0, slots := 0, locals := 40 } : Room) [] #[(.ref m), (.int (Int32.ofNat z))] [m, t] h (fun v h' => v = none ∧ Keep h h' [m, t] ∧ ∃ x' : Int32, un x' % 2 = 1 ∧ MB Z h' m t 0 1 [x', w]) := by
  refine Met.of_body (a0 := a0) (L0 := #[.val (.ref m), .val (.int (Int32.ofNat z)), .unset, .unset, .unset]) (plainFor_of_name (by first | (simp [plainName, overriddenIn]; done) | decide +kernel)) (fun m => by first | rfl | (simp [entryFrame, mkF, argsToLocals, Value.category]; done)) hw hEL (by decide) ?_
  have K : Keep h h [m, t] := Keep.refl _ _
  obtain ⟨Em, Vm, Om, Lm, km, Am⟩ := id Hm
  have Am : Arv Z h t km .int (2 : Int32) [(.int x), (.int w)] (.int (0 : Int32)) := Am
  have ne_m_t : m ≠ t := Em.neArv Am (hw _ (List.mem_of_getElem? (i := 42) rfl))
  refine aloadN (pc' := 1) dak0 rfl rfl rfl ?_
  refine getfield (i := 53) (pc' := 4) dak1 rfl Lm rfl ?_
  refine ifT (pc' := 8) dak4 (by decide : ¬ ((1 : Int32) = (0 : Int32))) (by decide) rfl ?_
  refine iloadN (pc' := 9) dak8 rfl rfl ?_
  refine iconst (pc' := 10) (v := (5 : Int32)) dak9 rfl rfl ?_
  refine iushr (pc' := 11) dak10 rfl ?_
  rw [show (((Int32.ofNat z).toUInt32 >>> ((5 : Int32) &&& 31).toUInt32).toInt32) = (0 : Int32) from z_hi ⟨z, hz⟩]
  refine istoreN (pc' := 12) (L' := #[.val (.ref m), .val (.int (Int32.ofNat z)), .val (.int (0 : Int32)), .unset, .unset]) dak11 rfl rfl ?_
  refine iloadN (pc' := 13) dak12 rfl rfl ?_
  refine bipush (pc' := 15) (v := (31 : Int32)) dak13 rfl rfl ?_
  refine iand (pc' := 16) dak15 rfl ?_
  rw [show ((Int32.ofNat z) &&& (31 : Int32)) = (Int32.ofNat z) from z_lo ⟨z, hz⟩]
  refine istoreN (pc' := 17) (L' := #[.val (.ref m), .val (.int (Int32.ofNat z)), .val (.int (0 : Int32)), .val (.int (Int32.ofNat z)), .unset]) dak16 rfl rfl ?_
  refine aloadN (pc' := 18) dak17 rfl rfl rfl ?_
  refine dup (pc' := 19) dak18 rfl rfl ?_
  refine getfield (i := 53) (pc' := 22) dak19 rfl Lm rfl ?_
  refine iloadN (pc' := 23) dak22 rfl rfl ?_
  refine isub (pc' := 24) dak23 rfl ?_
  rw [show ((1 : Int32) - (0 : Int32)) = (1 : Int32) from by decide]
  refine putfield (i := 53) (i2 := 54) (i3 := 42) (pc' := 27) (v' := (.int (1 : Int32))) (ty := .int) dak24 rfl (Or.inl rfl) rfl Lm Em (by decide) rfl rfl (by simp) rfl fun h94 W95 => ?_
  replace K := K.wr W95 (Or.inl (by simp))
  replace Em := Em.wr W95
  replace Vm := Vm.other W95 (Or.inr (slot_ne (Or.inl (hw _ (List.mem_of_getElem? (i := 69) rfl))) (Or.inl (hw _ (List.mem_of_getElem? (i := 54) rfl))) (by decide) (t := (.array .int)) (t' := .int) (by decide) (by decide)))
  replace Om := Om.other W95 (Or.inr (slot_ne (Or.inl (hw _ (List.mem_of_getElem? (i := 50) rfl))) (Or.inl (hw _ (List.mem_of_getElem? (i := 54) rfl))) (by decide) (t := .int) (t' := .int) (by decide) (by decide)))
  replace Lm := Lm.same W95
  replace Am := Am.other W95 (Ne.symm ne_m_t)
  refine iloadN (pc' := 28) dak27 rfl rfl ?_
  refine ifT (pc' := 32) dak28 (fun q => absurd (z_0 ⟨z, by omega⟩ q) (by show ¬ z = 0; omega) : ¬ ((Int32.ofNat z) = (0 : Int32))) (by decide) rfl ?_
  refine aloadN (pc' := 33) dak32 rfl rfl rfl ?_
  refine getfield (i := 68) (pc' := 36) dak33 rfl Vm rfl ?_
  refine aloadN (pc' := 37) dak36 rfl rfl rfl ?_
  refine getfield (i := 49) (pc' := 40) dak37 rfl Om rfl ?_
  refine iaload (v := (.int x)) (pc' := 41) dak40 Am ⟨by decide, by decide⟩ rfl rfl ?_
  refine call (i := 235) (i2 := 8) (Wd := 0) (pc' := 44) (kStatic (i := 233) (i2 := 234) (i3 := 8) (i4 := 235) (argsL := [(.int x)]) (S' := []) (Wd := 0) dak41 rfl rfl rfl rfl (by decide) rfl pd_2 rfl rfl (Nat.le_of_ble_eq_true rfl)) (rm_bl l Z a0 hw hEL n0 x _ hx) rfl rfl (by simp) (by decide) (by decide) (by decide) (by decide) rfl fun v_ h96 P97 sz98 => ?_
  obtain ⟨b, rfl, hb1, hb2, hb3, hb4, e99⟩ := P97
  rw [e99]
  refine at' (ce' := 0) (sl' := 0) (pc' := 44) (S' := [(.int (Int32.ofNat b))]) rfl rfl rfl rfl rfl ?_
  refine istore (pc' := 46) (L' := #[.val (.ref m), .val (.int (Int32.ofNat z)), .val (.int (0 : Int32)), .val (.int (Int32.ofNat z)), .val (.int (Int32.ofNat b))]) dak44 rfl rfl ?_
  refine iloadN (pc' := 47) dak46 rfl rfl ?_
  refine iload (pc' := 49) dak47 rfl rfl ?_
  refine icmpT (pc' := 73) dak49 ((z_lt ⟨z, hz⟩ ⟨b, by omega⟩).mpr (low_lt hl hb4) : (Int32.ofNat z) < (Int32.ofNat b)) (by decide) rfl ?_
  refine aloadN (pc' := 74) dak73 rfl rfl rfl ?_
  refine iloadN (pc' := 75) dak74 rfl rfl ?_
  refine call (i := 243) (i2 := 43) (Wd := 0) (pc' := 78) (kPriv (i := 239) (i2 := 240) (i3 := 73) (i4 := 243) (i5 := 241) (a := m) (argsL := [(.int (Int32.ofNat z))]) (S' := []) (Wd := 0) dak75 rfl rfl rfl rfl rfl rfl Em (by decide) rfl pd_3 rfl rfl (Nat.le_of_ble_eq_true rfl)) (rm_prs12 l Z a0 hw hEL n0 m t x w (Int32.ofNat z) _ ⟨Em, Vm, Om, Lm, km, Am⟩) rfl rfl (by simp) (by decide) (by decide) (by decide) (by decide) rfl fun v_ h100 P101 sz102 => ?_
  obtain ⟨rfl, Kp, Hp⟩ := P101
  replace K := K.trans Kp (allS (Or.inl (by simp)) all0)
  refine at' (ce' := 0) (sl' := 0) (pc' := 78) (S' := []) rfl rfl rfl rfl rfl ?_
  obtain ⟨Em, Vm, Om, Lm, km, Am⟩ := id Hp
  have Am : Arv Z h100 t km .int (2 : Int32) [(.int ((x.toUInt32 >>> ((Int32.ofNat z) &&& 31).toUInt32).toInt32)), (.int w)] (.int (0 : Int32)) := Am
  exact retV dak78 rfl (by decide) (by decide) ⟨rfl, K, _, by rw [un_ush x z hz]; exact hl.2, ⟨Em, Vm, Om, Lm, km, Am⟩⟩
set_option maxRecDepth 65536 in
set_option maxHeartbeats 40000000 in
theorem rm_rs2 (l : Launch) (Z : State) (a0 : Array Value) (hw : ∀ d ∈ tables_1, d.before a0 Z = true) (hEL : EW Z a0 []) (n0 : Nat) (m t : Addr) (x y : Int32) (z : Nat) (h : Heap)  (Hm : MB Z h m t 0 2 [x, y]) (hx : ¬ x = 0) (h1 : 1 ≤ z) (hz : z < 32) (hl : Jvm.Free.JM.Low (un y) z) :
    Met l true Z [] n0 (⟨"java/math/MutableBigInteger", "rightShift", "(I)V"⟩ : MethodName) jdk_2101_method_35_code 5 none ({ frames := 2, cells := 0, slots := 0, locals := 40 } : Room) [] #[(.ref m), (.int (Int32.ofNat z))] [m, t] h (fun v h' => v = none ∧ Keep h h' [m, t] ∧ ((∃ x' w : Int32, un x' % 2 = 1 ∧ MB Z h' m t 0 1 [x', w]) ∨ ∃ x' y' : Int32, ¬ x' = 0 ∧ un x' < un x ∧ un y' % 2 = 1 ∧ MB Z h' m t 0 2 [x', y'])) := by
  refine Met.of_body (a0 := a0) (L0 := #[.val (.ref m), .val (.int (Int32.ofNat z)), .unset, .unset, .unset]) (plainFor_of_name (by first | (simp [plainName, overriddenIn]; done) | decide +kernel)) (fun m => by first | rfl | (simp [entryFrame, mkF, argsToLocals, Value.category]; done)) hw hEL (by decide) ?_
  have K : Keep h h [m, t] := Keep.refl _ _
  obtain ⟨Em, Vm, Om, Lm, km, Am⟩ := id Hm
  have Am : Arv Z h t km .int (2 : Int32) [(.int x), (.int y)] (.int (0 : Int32)) := Am
  have ne_m_t : m ≠ t := Em.neArv Am (hw _ (List.mem_of_getElem? (i := 42) rfl))
  refine aloadN (pc' := 1) dak0 rfl rfl rfl ?_
  refine getfield (i := 53) (pc' := 4) dak1 rfl Lm rfl ?_
  refine ifT (pc' := 8) dak4 (by decide : ¬ ((2 : Int32) = (0 : Int32))) (by decide) rfl ?_
  refine iloadN (pc' := 9) dak8 rfl rfl ?_
  refine iconst (pc' := 10) (v := (5 : Int32)) dak9 rfl rfl ?_
  refine iushr (pc' := 11) dak10 rfl ?_
  rw [show (((Int32.ofNat z).toUInt32 >>> ((5 : Int32) &&& 31).toUInt32).toInt32) = (0 : Int32) from z_hi ⟨z, hz⟩]
  refine istoreN (pc' := 12) (L' := #[.val (.ref m), .val (.int (Int32.ofNat z)), .val (.int (0 : Int32)), .unset, .unset]) dak11 rfl rfl ?_
  refine iloadN (pc' := 13) dak12 rfl rfl ?_
  refine bipush (pc' := 15) (v := (31 : Int32)) dak13 rfl rfl ?_
  refine iand (pc' := 16) dak15 rfl ?_
  rw [show ((Int32.ofNat z) &&& (31 : Int32)) = (Int32.ofNat z) from z_lo ⟨z, hz⟩]
  refine istoreN (pc' := 17) (L' := #[.val (.ref m), .val (.int (Int32.ofNat z)), .val (.int (0 : Int32)), .val (.int (Int32.ofNat z)), .unset]) dak16 rfl rfl ?_
  refine aloadN (pc' := 18) dak17 rfl rfl rfl ?_
  refine dup (pc' := 19) dak18 rfl rfl ?_
  refine getfield (i := 53) (pc' := 22) dak19 rfl Lm rfl ?_
  refine iloadN (pc' := 23) dak22 rfl rfl ?_
  refine isub (pc' := 24) dak23 rfl ?_
  rw [show ((2 : Int32) - (0 : Int32)) = (2 : Int32) from by decide]
  refine putfield (i := 53) (i2 := 54) (i3 := 42) (pc' := 27) (v' := (.int (2 : Int32))) (ty := .int) dak24 rfl (Or.inl rfl) rfl Lm Em (by decide) rfl rfl (by simp) rfl fun h103 W104 => ?_
  replace K := K.wr W104 (Or.inl (by simp))
  replace Em := Em.wr W104
  replace Vm := Vm.other W104 (Or.inr (slot_ne (Or.inl (hw _ (List.mem_of_getElem? (i := 69) rfl))) (Or.inl (hw _ (List.mem_of_getElem? (i := 54) rfl))) (by decide) (t := (.array .int)) (t' := .int) (by decide) (by decide)))
  replace Om := Om.other W104 (Or.inr (slot_ne (Or.inl (hw _ (List.mem_of_getElem? (i := 50) rfl))) (Or.inl (hw _ (List.mem_of_getElem? (i := 54) rfl))) (by decide) (t := .int) (t' := .int) (by decide) (by decide)))
  replace Lm := Lm.same W104
  replace Am := Am.other W104 (Ne.symm ne_m_t)
  refine iloadN (pc' := 28) dak27 rfl rfl ?_
  refine ifT (pc' := 32) dak28 (fun q => absurd (z_0 ⟨z, by omega⟩ q) (by show ¬ z = 0; omega) : ¬ ((Int32.ofNat z) = (0 : Int32))) (by decide) rfl ?_
  refine aloadN (pc' := 33) dak32 rfl rfl rfl ?_
  refine getfield (i := 68) (pc' := 36) dak33 rfl Vm rfl ?_
  refine aloadN (pc' := 37) dak36 rfl rfl rfl ?_
  refine getfield (i := 49) (pc' := 40) dak37 rfl Om rfl ?_
  refine iaload (v := (.int x)) (pc' := 41) dak40 Am ⟨by decide, by decide⟩ rfl rfl ?_
  refine call (i := 235) (i2 := 8) (Wd := 0) (pc' := 44) (kStatic (i := 233) (i2 := 234) (i3 := 8) (i4 := 235) (argsL := [(.int x)]) (S' := []) (Wd := 0) dak41 rfl rfl rfl rfl (by decide) rfl pd_2 rfl rfl (Nat.le_of_ble_eq_true rfl)) (rm_bl l Z a0 hw hEL n0 x _ hx) rfl rfl (by simp) (by decide) (by decide) (by decide) (by decide) rfl fun v_ h105 P106 sz107 => ?_
  obtain ⟨b, rfl, hb1, hb2, hb3, hb4, e108⟩ := P106
  rw [e108]
  refine at' (ce' := 0) (sl' := 0) (pc' := 44) (S' := [(.int (Int32.ofNat b))]) rfl rfl rfl rfl rfl ?_
  refine istore (pc' := 46) (L' := #[.val (.ref m), .val (.int (Int32.ofNat z)), .val (.int (0 : Int32)), .val (.int (Int32.ofNat z)), .val (.int (Int32.ofNat b))]) dak44 rfl rfl ?_
  refine iloadN (pc' := 47) dak46 rfl rfl ?_
  refine iload (pc' := 49) dak47 rfl rfl ?_
  refine icmp (pc' := 73) (pcF := 52) dak49 (by decide) rfl rfl (fun (q0 : (Int32.ofNat z) < (Int32.ofNat b)) => ?_) (fun (q0 : ¬ ((Int32.ofNat z) < (Int32.ofNat b))) => ?_)
  · skip
    refine aloadN (pc' := 74) dak73 rfl rfl rfl ?_
    refine iloadN (pc' := 75) dak74 rfl rfl ?_
    refine call (i := 243) (i2 := 43) (Wd := 0) (pc' := 78) (kPriv (i := 239) (i2 := 240) (i3 := 73) (i4 := 243) (i5 := 241) (a := m) (argsL := [(.int (Int32.ofNat z))]) (S' := []) (Wd := 0) dak75 rfl rfl rfl rfl rfl rfl Em (by decide) rfl pd_3 rfl rfl (Nat.le_of_ble_eq_true rfl)) (rm_prs2 l Z a0 hw hEL n0 m t x y (Int32.ofNat z) _ ⟨Em, Vm, Om, Lm, km, Am⟩) rfl rfl (by simp) (by decide) (by decide) (by decide) (by decide) rfl fun v_ h109 P110 sz111 => ?_
    obtain ⟨rfl, Kp, Hp⟩ := P110
    replace K := K.trans Kp (allS (Or.inl (by simp)) all0)
    refine at' (ce' := 0) (sl' := 0) (pc' := 78) (S' := []) rfl rfl rfl rfl rfl ?_
    obtain ⟨Em, Vm, Om, Lm, km, Am⟩ := id Hp
    have Am : Arv Z h109 t km .int (2 : Int32) [(.int ((x.toUInt32 >>> ((Int32.ofNat z) &&& 31).toUInt32).toInt32)), (.int ((x <<< (((32 : Int32) - (Int32.ofNat z)) &&& 31)) ||| ((y.toUInt32 >>> ((Int32.ofNat z) &&& 31).toUInt32).toInt32)))] (.int (0 : Int32)) := Am
    exact retV dak78 rfl (by decide) (by decide) ⟨rfl, K, Or.inr ⟨_, _, un_ne (by rw [un_ush x z hz]; exact half_pos hb3 ((z_lt ⟨z, hz⟩ ⟨b, by omega⟩).mp q0)), by rw [un_ush x z hz]; exact low_half h1 (un_pos hx), or_odd (by rw [un_ush y z hz]; exact hl.2), ⟨Em, Vm, Om, Lm, km, Am⟩⟩⟩
  · skip
    refine aloadN (pc' := 53) dak52 rfl rfl rfl ?_
    refine bipush (pc' := 55) (v := (32 : Int32)) dak53 rfl rfl ?_
    refine iloadN (pc' := 56) dak55 rfl rfl ?_
    refine isub (pc' := 57) dak56 rfl ?_
    refine call (i := 258) (i2 := 43) (Wd := 0) (pc' := 60) (kPriv (i := 254) (i2 := 255) (i3 := 73) (i4 := 258) (i5 := 256) (a := m) (argsL := [(.int ((32 : Int32) - (Int32.ofNat z)))]) (S' := []) (Wd := 0) dak57 rfl rfl rfl rfl rfl rfl Em (by decide) rfl pd_3 rfl rfl (Nat.le_of_ble_eq_true rfl)) (rm_pls2 l Z a0 hw hEL n0 m t x y ((32 : Int32) - (Int32.ofNat z)) _ ⟨Em, Vm, Om, Lm, km, Am⟩) rfl rfl (by simp) (by decide) (by decide) (by decide) (by decide) rfl fun v_ h112 P113 sz114 => ?_
    obtain ⟨rfl, Kp, Hp⟩ := P113
    replace K := K.trans Kp (allS (Or.inl (by simp)) all0)
    refine at' (ce' := 0) (sl' := 0) (pc' := 60) (S' := []) rfl rfl rfl rfl rfl ?_
    obtain ⟨Em, Vm, Om, Lm, km, Am⟩ := id Hp
    have Am : Arv Z h112 t km .int (2 : Int32) [(.int ((x <<< (((32 : Int32) - (Int32.ofNat z)) &&& 31)) ||| ((y.toUInt32 >>> (((32 : Int32) - ((32 : Int32) - (Int32.ofNat z))) &&& 31).toUInt32).toInt32))), (.int (y <<< (((32 : Int32) - (Int32.ofNat z)) &&& 31)))] (.int (0 : Int32)) := Am
    refine aloadN (pc' := 61) dak60 rfl rfl rfl ?_
    refine dup (pc' := 62) dak61 rfl rfl ?_
    refine getfield (i := 53) (pc' := 65) dak62 rfl Lm rfl ?_
    refine iconst (pc' := 66) (v := (1 : Int32)) dak65 rfl rfl ?_
    refine isub (pc' := 67) dak66 rfl ?_
    rw [show ((2 : Int32) - (1 : Int32)) = (1 : Int32) from by decide]
    refine putfield (i := 53) (i2 := 54) (i3 := 42) (pc' := 70) (v' := (.int (1 : Int32))) (ty := .int) dak67 rfl (Or.inl rfl) rfl Lm Em (by decide) rfl rfl (by simp) rfl fun h115 W116 => ?_
    replace K := K.wr W116 (Or.inl (by simp))
    replace Em := Em.wr W116
    replace Vm := Vm.other W116 (Or.inr (slot_ne (Or.inl (hw _ (List.mem_of_getElem? (i := 69) rfl))) (Or.inl (hw _ (List.mem_of_getElem? (i := 54) rfl))) (by decide) (t := (.array .int)) (t' := .int) (by decide) (by decide)))
    replace Om := Om.other W116 (Or.inr (slot_ne (Or.inl (hw _ (List.mem_of_getElem? (i := 50) rfl))) (Or.inl (hw _ (List.mem_of_getElem? (i := 54) rfl))) (by decide) (t := .int) (t' := .int) (by decide) (by decide)))
    replace Lm := Lm.same W116
    replace Am := Am.other W116 (Ne.symm ne_m_t)
    refine goto (pc' := 78) dak70 (by decide) rfl ?_
    exact retV dak78 rfl (by decide) (by decide) ⟨rfl, K, Or.inl ⟨_, _, or_odd (by rw [z_sub ⟨z, hz⟩, un_ush y z hz]; exact hl.2), ⟨Em, Vm, Om, Lm, km, Am⟩⟩⟩
set_option maxRecDepth 65536 in
set_option maxHeartbeats 40000000 in
theorem rm_rs20 (l : Launch) (Z : State) (a0 : Array Value) (hw : ∀ d ∈ tables_1, d.before a0 Z = true) (hEL : EW Z a0 []) (n0 : Nat) (m t : Addr) (x : Int32) (z : Nat) (h : Heap)  (Hm : MB Z h m t 0 2 [x, 0]) (hx : ¬ x = 0) (hz : z < 32) (hl : Jvm.Free.JM.Low (un x) z) :
    Met l true Z [] n0 (⟨"java/math/MutableBigInteger", "rightShift", "(I)V"⟩ : MethodName) jdk_2101_method_35_code 5 none ({ frames := 2, cells := 0, slots := 0, locals := 40 } : Room) [] #[(.ref m), (.int (Int32.ofNat (32 + z)))] [m, t] h (fun v h' => v = none ∧ Keep h h' [m, t] ∧ ∃ x' w : Int32, un x' % 2 = 1 ∧ MB Z h' m t 0 1 [x', w]) := by
  refine Met.of_body (a0 := a0) (L0 := #[.val (.ref m), .val (.int (Int32.ofNat (32 + z))), .unset, .unset, .unset]) (plainFor_of_name (by first | (simp [plainName, overriddenIn]; done) | decide +kernel)) (fun m => by first | rfl | (simp [entryFrame, mkF, argsToLocals, Value.category]; done)) hw hEL (by decide) ?_
  have K : Keep h h [m, t] := Keep.refl _ _
  obtain ⟨Em, Vm, Om, Lm, km, Am⟩ := id Hm
  have Am : Arv Z h t km .int (2 : Int32) [(.int x), (.int 0)] (.int (0 : Int32)) := Am
  have ne_m_t : m ≠ t := Em.neArv Am (hw _ (List.mem_of_getElem? (i := 42) rfl))
  refine aloadN (pc' := 1) dak0 rfl rfl rfl ?_
  refine getfield (i := 53) (pc' := 4) dak1 rfl Lm rfl ?_
  refine ifT (pc' := 8) dak4 (by decide : ¬ ((2 : Int32) = (0 : Int32))) (by decide) rfl ?_
  refine iloadN (pc' := 9) dak8 rfl rfl ?_
  refine iconst (pc' := 10) (v := (5 : Int32)) dak9 rfl rfl ?_
  refine iushr (pc' := 11) dak10 rfl ?_
  rw [show (((Int32.ofNat (32 + z)).toUInt32 >>> ((5 : Int32) &&& 31).toUInt32).toInt32) = (1 : Int32) from z_hi2 ⟨z, hz⟩]
  refine istoreN (pc' := 12) (L' := #[.val (.ref m), .val (.int (Int32.ofNat (32 + z))), .val (.int (1 : Int32)), .unset, .unset]) dak11 rfl rfl ?_
  refine iloadN (pc' := 13) dak12 rfl rfl ?_
  refine bipush (pc' := 15) (v := (31 : Int32)) dak13 rfl rfl ?_
  refine iand (pc' := 16) dak15 rfl ?_
  rw [show ((Int32.ofNat (32 + z)) &&& (31 : Int32)) = (Int32.ofNat z) from z_lo2 ⟨z, hz⟩]
  refine istoreN (pc' := 17) (L' := #[.val (.ref m), .val (.int (Int32.ofNat (32 + z))), .val (.int (1 : Int32)), .val (.int (Int32.ofNat z)), .unset]) dak16 rfl rfl ?_
  refine aloadN (pc' := 18) dak17 rfl rfl rfl ?_
  refine dup (pc' := 19) dak18 rfl rfl ?_
  refine getfield (i := 53) (pc' := 22) dak19 rfl Lm rfl ?_
  refine iloadN (pc' := 23) dak22 rfl rfl ?_
  refine isub (pc' := 24) dak23 rfl ?_
  rw [show ((2 : Int32) - (1 : Int32)) = (1 : Int32) from by decide]
  refine putfield (i := 53) (i2 := 54) (i3 := 42) (pc' := 27) (v' := (.int (1 : Int32))) (ty := .int) dak24 rfl (Or.inl rfl) rfl Lm Em (by decide) rfl rfl (by simp) rfl fun h117 W118 => ?_
  replace K := K.wr W118 (Or.inl (by simp))
  replace Em := Em.wr W118
  replace Vm := Vm.other W118 (Or.inr (slot_ne (Or.inl (hw _ (List.mem_of_getElem? (i := 69) rfl))) (Or.inl (hw _ (List.mem_of_getElem? (i := 54) rfl))) (by decide) (t := (.array .int)) (t' := .int) (by decide) (by decide)))
  replace Om := Om.other W118 (Or.inr (slot_ne (Or.inl (hw _ (List.mem_of_getElem? (i := 50) rfl))) (Or.inl (hw _ (List.mem_of_getElem? (i := 54) rfl))) (by decide) (t := .int) (t' := .int) (by decide) (by decide)))
  replace Lm := Lm.same W118
  replace Am := Am.other W118 (Ne.symm ne_m_t)
  refine iloadN (pc' := 28) dak27 rfl rfl ?_
  refine ifc (pc' := 32) (pcF := 31) dak28 (by decide) rfl rfl (fun (q0 : ¬ ((Int32.ofNat z) = (0 : Int32))) => ?_) (fun (q0 : (Int32.ofNat z) = (0 : Int32)) => ?_)
  · skip
    refine aloadN (pc' := 33) dak32 rfl rfl rfl ?_
    refine getfield (i := 68) (pc' := 36) dak33 rfl Vm rfl ?_
    refine aloadN (pc' := 37) dak36 rfl rfl rfl ?_
    refine getfield (i := 49) (pc' := 40) dak37 rfl Om rfl ?_
    refine iaload (v := (.int x)) (pc' := 41) dak40 Am ⟨by decide, by decide⟩ rfl rfl ?_
    refine call (i := 235) (i2 := 8) (Wd := 0) (pc' := 44) (kStatic (i := 233) (i2 := 234) (i3 := 8) (i4 := 235) (argsL := [(.int x)]) (S' := []) (Wd := 0) dak41 rfl rfl rfl rfl (by decide) rfl pd_2 rfl rfl (Nat.le_of_ble_eq_true rfl)) (rm_bl l Z a0 hw hEL n0 x _ hx) rfl rfl (by simp) (by decide) (by decide) (by decide) (by decide) rfl fun v_ h119 P120 sz121 => ?_
    obtain ⟨b, rfl, hb1, hb2, hb3, hb4, e122⟩ := P120
    rw [e122]
    refine at' (ce' := 0) (sl' := 0) (pc' := 44) (S' := [(.int (Int32.ofNat b))]) rfl rfl rfl rfl rfl ?_
    refine istore (pc' := 46) (L' := #[.val (.ref m), .val (.int (Int32.ofNat (32 + z))), .val (.int (1 : Int32)), .val (.int (Int32.ofNat z)), .val (.int (Int32.ofNat b))]) dak44 rfl rfl ?_
    refine iloadN (pc' := 47) dak46 rfl rfl ?_
    refine iload (pc' := 49) dak47 rfl rfl ?_
    refine icmpT (pc' := 73) dak49 ((z_lt ⟨z, hz⟩ ⟨b, by omega⟩).mpr (low_lt hl hb4) : (Int32.ofNat z) < (Int32.ofNat b)) (by decide) rfl ?_
    refine aloadN (pc' := 74) dak73 rfl rfl rfl ?_
    refine iloadN (pc' := 75) dak74 rfl rfl ?_
    refine call (i := 243) (i2 := 43) (Wd := 0) (pc' := 78) (kPriv (i := 239) (i2 := 240) (i3 := 73) (i4 := 243) (i5 := 241) (a := m) (argsL := [(.int (Int32.ofNat z))]) (S' := []) (Wd := 0) dak75 rfl rfl rfl rfl rfl rfl Em (by decide) rfl pd_3 rfl rfl (Nat.le_of_ble_eq_true rfl)) (rm_prs12 l Z a0 hw hEL n0 m t x 0 (Int32.ofNat z) _ ⟨Em, Vm, Om, Lm, km, Am⟩) rfl rfl (by simp) (by decide) (by decide) (by decide) (by decide) rfl fun v_ h123 P124 sz125 => ?_
    obtain ⟨rfl, Kp, Hp⟩ := P124
    replace K := K.trans Kp (allS (Or.inl (by simp)) all0)
    refine at' (ce' := 0) (sl' := 0) (pc' := 78) (S' := []) rfl rfl rfl rfl rfl ?_
    obtain ⟨Em, Vm, Om, Lm, km, Am⟩ := id Hp
    have Am : Arv Z h123 t km .int (2 : Int32) [(.int ((x.toUInt32 >>> ((Int32.ofNat z) &&& 31).toUInt32).toInt32)), (.int 0)] (.int (0 : Int32)) := Am
    exact retV dak78 rfl (by decide) (by decide) ⟨rfl, K, _, _, by rw [un_ush x z hz]; exact hl.2, ⟨Em, Vm, Om, Lm, km, Am⟩⟩
  · skip
    have z0 : z = 0 := z_0 ⟨z, by omega⟩ q0
    exact retV dak31 rfl (by decide) (by decide) ⟨rfl, K, _, _, LB1.odd ⟨z, hz, hl, rfl⟩ q0, ⟨Em, Vm, Om, Lm, km, Am⟩⟩
set_option maxRecDepth 65536 in
set_option maxHeartbeats 40000000 in
theorem rm_norm (l : Launch) (Z : State) (a0 : Array Value) (hw : ∀ d ∈ tables_1, d.before a0 Z = true) (hEL : EW Z a0 []) (n0 : Nat) (m t : Addr) (x y : Int32) (h : Heap)  (Hm : MB Z h m t 0 2 [x, y]) (hx : ¬ x = 0) :
    Met l true Z [] n0 (⟨"java/math/MutableBigInteger", "normalize", "()V"⟩ : MethodName) jdk_2101_method_21_code 4 none ({ frames := 0, cells := 0, slots := 0, locals := 0 } : Room) [] #[(.ref m)] [] h (fun v h' => v = none ∧ h' = h) := by
  refine Met.of_body (a0 := a0) (L0 := #[.val (.ref m), .unset, .unset, .unset]) (plainFor_of_name (by first | (simp [plainName, overriddenIn]; done) | decide +kernel)) (fun m => by first | rfl | (simp [entryFrame, mkF, argsToLocals, Value.category]; done)) hw hEL (by decide) ?_
  obtain ⟨Em, Vm, Om, Lm, km, Am⟩ := id Hm
  have Am : Arv Z h t km .int (2 : Int32) [(.int x), (.int y)] (.int (0 : Int32)) := Am
  have ne_m_t : m ≠ t := Em.neArv Am (hw _ (List.mem_of_getElem? (i := 42) rfl))
  refine aloadN (pc' := 1) dal0 rfl rfl rfl ?_
  refine getfield (i := 53) (pc' := 4) dal1 rfl Lm rfl ?_
  refine ifT (pc' := 13) dal4 (by decide : ¬ ((2 : Int32) = (0 : Int32))) (by decide) rfl ?_
  refine aloadN (pc' := 14) dal13 rfl rfl rfl ?_
  refine getfield (i := 49) (pc' := 17) dal14 rfl Om rfl ?_
  refine istoreN (pc' := 18) (L' := #[.val (.ref m), .val (.int (0 : Int32)), .unset, .unset]) dal17 rfl rfl ?_
  refine aloadN (pc' := 19) dal18 rfl rfl rfl ?_
  refine getfield (i := 68) (pc' := 22) dal19 rfl Vm rfl ?_
  refine iloadN (pc' := 23) dal22 rfl rfl ?_
  refine iaload (v := (.int x)) (pc' := 24) dal23 Am ⟨by decide, by decide⟩ rfl rfl ?_
  refine ifF (pc' := 27) dal24 (hx : ¬ (x = (0 : Int32))) rfl ?_
  exact retV dal27 rfl (by decide) (by decide) ⟨rfl, rfl⟩
set_option maxRecDepth 65536 in
set_option maxHeartbeats 40000000 in
theorem rm_cmp21 (l : Launch) (Z : State) (a0 : Array Value) (hw : ∀ d ∈ tables_1, d.before a0 Z = true) (hEL : EW Z a0 []) (n0 : Nat) (u tu q tq : Addr) (x y c : Int32) (h : Heap)  (Hu : MB Z h u tu 0 2 [x, y]) (Hq : MB Z h q tq 0 1 [c]) :
    Met l true Z [] n0 (⟨"java/math/MutableBigInteger", "compare", "(Ljava/math/MutableBigInteger;)I"⟩ : MethodName) jdk_2101_method_15_code 8 (some .int) ({ frames := 0, cells := 0, slots := 0, locals := 0 } : Room) [] #[(.ref u), (.ref q)] [] h (fun v h' => v = some (.int 1) ∧ h' = h) := by
  refine Met.of_body (a0 := a0) (L0 := #[.val (.ref u), .val (.ref q), .unset, .unset, .unset, .unset, .unset, .unset]) (plainFor_of_name (by first | (simp [plainName, overriddenIn]; done) | decide +kernel)) (fun m => by first | rfl | (simp [entryFrame, mkF, argsToLocals, Value.category]; done)) hw hEL (by decide) ?_
  obtain ⟨Eu, Vu, Ou, Lu, ku, Au⟩ := id Hu
  have Au : Arv Z h tu ku .int (2 : Int32) [(.int x), (.int y)] (.int (0 : Int32)) := Au
  have ne_u_tu : u ≠ tu := Eu.neArv Au (hw _ (List.mem_of_getElem? (i := 42) rfl))
  obtain ⟨Eq, Vq, Oq, Lq, kq, Aq⟩ := id Hq
  have Aq : Arv Z h tq kq .int (1 : Int32) [(.int c)] (.int (0 : Int32)) := Aq
  have ne_q_tq : q ≠ tq := Eq.neArv Aq (hw _ (List.mem_of_getElem? (i := 42) rfl))
  refine aloadN (pc' := 1) dam0 rfl rfl rfl ?_
  refine getfield (i := 53) (pc' := 4) dam1 rfl Lq rfl ?_
  refine istoreN (pc' := 5) (L' := #[.val (.ref u), .val (.ref q), .val (.int (1 : Int32)), .unset, .unset, .unset, .unset, .unset]) dam4 rfl rfl ?_
  refine aloadN (pc' := 6) dam5 rfl rfl rfl ?_
  refine getfield (i := 53) (pc' := 9) dam6 rfl Lu rfl ?_
  refine iloadN (pc' := 10) dam9 rfl rfl ?_
  refine icmpT (pc' := 15) dam10 (by decide : ¬ ((2 : Int32) < (1 : Int32))) (by decide) rfl ?_
  refine aloadN (pc' := 16) dam15 rfl rfl rfl ?_
  refine getfield (i := 53) (pc' := 19) dam16 rfl Lu rfl ?_
  refine iloadN (pc' := 20) dam19 rfl rfl ?_
  refine icmpF (pc' := 23) dam20 (by decide : (1 : Int32) < (2 : Int32)) rfl ?_
  refine iconst (pc' := 24) (v := (1 : Int32)) dam23 rfl rfl ?_
  exact retI dam24 rfl (Or.inl rfl) rfl (by decide) (by decide) ⟨rfl, rfl⟩
set_option maxRecDepth 65536 in
set_option maxHeartbeats 40000000 in
theorem rm_cmp11 (l : Launch) (Z : State) (a0 : Array Value) (hw : ∀ d ∈ tables_1, d.before a0 Z = true) (hEL : EW Z a0 []) (n0 : Nat) (u tu q tq : Addr) (x : Int32) (h : Heap)  (Hu : MB Z h u tu 0 1 [x]) (Hq : MB Z h q tq 0 1 [1]) (hx : ¬ x = 0) :
    Met l true Z [] n0 (⟨"java/math/MutableBigInteger", "compare", "(Ljava/math/MutableBigInteger;)I"⟩ : MethodName) jdk_2101_method_15_code 8 (some .int) ({ frames := 0, cells := 0, slots := 0, locals := 0 } : Room) [] #[(.ref u), (.ref q)] [] h (fun v h' => ∃ c : Int32, v = some (.int c) ∧ ((c = 0 ∧ x = 1) ∨ (c = 1 ∧ ¬ x = 1)) ∧ h' = h) := by
  refine Met.of_body (a0 := a0) (L0 := #[.val (.ref u), .val (.ref q), .unset, .unset, .unset, .unset, .unset, .unset]) (plainFor_of_name (by first | (simp [plainName, overriddenIn]; done) | decide +kernel)) (fun m => by first | rfl | (simp [entryFrame, mkF, argsToLocals, Value.category]; done)) hw hEL (by decide) ?_
  obtain ⟨Eu, Vu, Ou, Lu, ku, Au⟩ := id Hu
  have Au : Arv Z h tu ku .int (1 : Int32) [(.int x)] (.int (0 : Int32)) := Au
  have ne_u_tu : u ≠ tu := Eu.neArv Au (hw _ (List.mem_of_getElem? (i := 42) rfl))
  obtain ⟨Eq, Vq, Oq, Lq, kq, Aq⟩ := id Hq
  have Aq : Arv Z h tq kq .int (1 : Int32) [(.int (1 : Int32))] (.int (0 : Int32)) := Aq
  have ne_q_tq : q ≠ tq := Eq.neArv Aq (hw _ (List.mem_of_getElem? (i := 42) rfl))
  refine aloadN (pc' := 1) dam0 rfl rfl rfl ?_
  refine getfield (i := 53) (pc' := 4) dam1 rfl Lq rfl ?_
  refine istoreN (pc' := 5) (L' := #[.val (.ref u), .val (.ref q), .val (.int (1 : Int32)), .unset, .unset, .unset, .unset, .unset]) dam4 rfl rfl ?_
  refine aloadN (pc' := 6) dam5 rfl rfl rfl ?_
  refine getfield (i := 53) (pc' := 9) dam6 rfl Lu rfl ?_
  refine iloadN (pc' := 10) dam9 rfl rfl ?_
  refine icmpT (pc' := 15) dam10 (by decide : ¬ ((1 : Int32) < (1 : Int32))) (by decide) rfl ?_
  refine aloadN (pc' := 16) dam15 rfl rfl rfl ?_
  refine getfield (i := 53) (pc' := 19) dam16 rfl Lu rfl ?_
  refine iloadN (pc' := 20) dam19 rfl rfl ?_
  refine icmpT (pc' := 25) dam20 (by decide : ¬ ((1 : Int32) < (1 : Int32))) (by decide) rfl ?_
  refine aloadN (pc' := 26) dam25 rfl rfl rfl ?_
  refine getfield (i := 68) (pc' := 29) dam26 rfl Vq rfl ?_
  refine astoreN (pc' := 30) (L' := #[.val (.ref u), .val (.ref q), .val (.int (1 : Int32)), .val (.ref tq), .unset, .unset, .unset, .unset]) dam29 rfl rfl rfl ?_
  refine aloadN (pc' := 31) dam30 rfl rfl rfl ?_
  refine getfield (i := 49) (pc' := 34) dam31 rfl Ou rfl ?_
  refine istore (pc' := 36) (L' := #[.val (.ref u), .val (.ref q), .val (.int (1 : Int32)), .val (.ref tq), .val (.int (0 : Int32)), .unset, .unset, .unset]) dam34 rfl rfl ?_
  refine aloadN (pc' := 37) dam36 rfl rfl rfl ?_
  refine getfield (i := 49) (pc' := 40) dam37 rfl Oq rfl ?_
  refine istore (pc' := 42) (L' := #[.val (.ref u), .val (.ref q), .val (.int (1 : Int32)), .val (.ref tq), .val (.int (0 : Int32)), .val (.int (0 : Int32)), .unset, .unset]) dam40 rfl rfl ?_
  refine iload (pc' := 44) dam42 rfl rfl ?_
  refine aloadN (pc' := 45) dam44 rfl rfl rfl ?_
  refine getfield (i := 53) (pc' := 48) dam45 rfl Lu rfl ?_
  refine aloadN (pc' := 49) dam48 rfl rfl rfl ?_
  refine getfield (i := 49) (pc' := 52) dam49 rfl Ou rfl ?_
  refine iadd (pc' := 53) dam52 rfl ?_
  rw [show ((1 : Int32) + (0 : Int32)) = (1 : Int32) from by decide]
  refine icmpF (pc' := 56) dam53 (by decide : (0 : Int32) < (1 : Int32)) rfl ?_
  refine aloadN (pc' := 57) dam56 rfl rfl rfl ?_
  refine getfield (i := 68) (pc' := 60) dam57 rfl Vu rfl ?_
  refine iload (pc' := 62) dam60 rfl rfl ?_
  refine iaload (v := (.int x)) (pc' := 63) dam62 Au ⟨by decide, by decide⟩ rfl rfl ?_
  refine ldcInt (i := 106) (v := (-2147483648 : Int32)) (pc' := 65) dam63 rfl rfl ?_
  refine iadd (pc' := 66) dam65 rfl ?_
  refine istore (pc' := 68) (L' := #[.val (.ref u), .val (.ref q), .val (.int (1 : Int32)), .val (.ref tq), .val (.int (0 : Int32)), .val (.int (0 : Int32)), .val (.int (x + (-2147483648 : Int32))), .unset]) dam66 rfl rfl ?_
  refine aloadN (pc' := 69) dam68 rfl rfl rfl ?_
  refine iload (pc' := 71) dam69 rfl rfl ?_
  refine iaload (v := (.int (1 : Int32))) (pc' := 72) dam71 Aq ⟨by decide, by decide⟩ rfl rfl ?_
  refine ldcInt (i := 106) (v := (-2147483648 : Int32)) (pc' := 74) dam72 rfl rfl ?_
  refine iadd (pc' := 75) dam74 rfl ?_
  refine istore (pc' := 77) (L' := #[.val (.ref u), .val (.ref q), .val (.int (1 : Int32)), .val (.ref tq), .val (.int (0 : Int32)), .val (.int (0 : Int32)), .val (.int (x + (-2147483648 : Int32))), .val (.int ((1 : Int32) + (-2147483648 : Int32)))]) dam75 rfl rfl ?_
  refine iload (pc' := 79) dam77 rfl rfl ?_
  refine iload (pc' := 81) dam79 rfl rfl ?_
  refine icmpT (pc' := 86) dam81 (fun q => absurd ((ucmp x 1).mp q) (by have := un_pos hx; have e : un 1 = 1 := rfl; omega) : ¬ ((x + (-2147483648 : Int32)) < ((1 : Int32) + (-2147483648 : Int32)))) (by decide) rfl ?_
  refine iload (pc' := 88) dam86 rfl rfl ?_
  refine iload (pc' := 90) dam88 rfl rfl ?_
  refine icmp (pc' := 95) (pcF := 93) dam90 (by decide) rfl rfl (fun (q0 : ¬ (((1 : Int32) + (-2147483648 : Int32)) < (x + (-2147483648 : Int32)))) => ?_) (fun (q0 : ((1 : Int32) + (-2147483648 : Int32)) < (x + (-2147483648 : Int32))) => ?_)
  · skip
    have e1 : x = 1 := un_inj (by have := un_pos hx; have e : un 1 = 1 := rfl; have := mt (ucmp 1 x).mpr q0; omega)
    refine iinc (pc' := 98) (v := (1 : Int32)) (L' := #[.val (.ref u), .val (.ref q), .val (.int (1 : Int32)), .val (.ref tq), .val (.int (1 : Int32)), .val (.int (0 : Int32)), .val (.int (x + (-2147483648 : Int32))), .val (.int ((1 : Int32) + (-2147483648 : Int32)))]) dam95 rfl rfl rfl rfl ?_
    refine iinc (pc' := 101) (v := (1 : Int32)) (L' := #[.val (.ref u), .val (.ref q), .val (.int (1 : Int32)), .val (.ref tq), .val (.int (1 : Int32)), .val (.int (1 : Int32)), .val (.int (x + (-2147483648 : Int32))), .val (.int ((1 : Int32) + (-2147483648 : Int32)))]) dam98 rfl rfl rfl rfl ?_
    refine goto (pc' := 42) dam101 (by decide) rfl ?_
    refine iload (pc' := 44) dam42 rfl rfl ?_
    refine aloadN (pc' := 45) dam44 rfl rfl rfl ?_
    refine getfield (i := 53) (pc' := 48) dam45 rfl Lu rfl ?_
    refine aloadN (pc' := 49) dam48 rfl rfl rfl ?_
    refine getfield (i := 49) (pc' := 52) dam49 rfl Ou rfl ?_
    refine iadd (pc' := 53) dam52 rfl ?_
    rw [show ((1 : Int32) + (0 : Int32)) = (1 : Int32) from by decide]
    refine icmpT (pc' := 104) dam53 (by decide : ¬ ((1 : Int32) < (1 : Int32))) (by decide) rfl ?_
    refine iconst (pc' := 105) (v := (0 : Int32)) dam104 rfl rfl ?_
    exact retI dam105 rfl (Or.inl rfl) rfl (by decide) (by decide) ⟨_, rfl, Or.inl ⟨rfl, e1⟩, rfl⟩
  · skip
    refine iconst (pc' := 94) (v := (1 : Int32)) dam93 rfl rfl ?_
    exact retI dam94 rfl (Or.inl rfl) rfl (by decide) (by decide) ⟨_, rfl, Or.inr ⟨rfl, fun e => by rw [e] at q0; exact absurd q0 (by decide)⟩, rfl⟩
set_option maxRecDepth 65536 in
set_option maxHeartbeats 40000000 in
theorem rm_dif (l : Launch) (Z : State) (a0 : Array Value) (hw : ∀ d ∈ tables_1, d.before a0 Z = true) (hEL : EW Z a0 []) (n0 : Nat) (u tu q tq : Addr) (x y : Int32) (h : Heap)  (Hu : MB Z h u tu 0 2 [x, y]) (Hq : MB Z h q tq 0 1 [1]) (n1 : u ≠ q) (n2 : tu ≠ tq) (hx : ¬ x = 0) (hy : un y ≠ 0) :
    Met l true Z [] n0 (⟨"java/math/MutableBigInteger", "difference", "(Ljava/math/MutableBigInteger;)I"⟩ : MethodName) jdk_2101_method_50_code 8 (some .int) ({ frames := 1, cells := 0, slots := 0, locals := 30 } : Room) [] #[(.ref u), (.ref q)] [u, tu] h (fun v h' => v = some (.int 1) ∧ Keep h h' [u, tu] ∧ ∃ y' : Int32, un y' = un y - 1 ∧ MB Z h' u tu 0 2 [x, y']) := by
  refine Met.of_body (a0 := a0) (L0 := #[.val (.ref u), .val (.ref q), .unset, .unset, .unset, .unset, .unset, .unset]) (plainFor_of_name (by first | (simp [plainName, overriddenIn]; done) | decide +kernel)) (fun m => by first | rfl | (simp [entryFrame, mkF, argsToLocals, Value.category]; done)) hw hEL (by decide) ?_
  have K : Keep h h [u, tu] := Keep.refl _ _
  obtain ⟨Eu, Vu, Ou, Lu, ku, Au⟩ := id Hu
  have Au : Arv Z h tu ku .int (2 : Int32) [(.int x), (.int y)] (.int (0 : Int32)) := Au
  have ne_u_tu : u ≠ tu := Eu.neArv Au (hw _ (List.mem_of_getElem? (i := 42) rfl))
  obtain ⟨Eq, Vq, Oq, Lq, kq, Aq⟩ := id Hq
  have Aq : Arv Z h tq kq .int (1 : Int32) [(.int (1 : Int32))] (.int (0 : Int32)) := Aq
  have ne_q_tq : q ≠ tq := Eq.neArv Aq (hw _ (List.mem_of_getElem? (i := 42) rfl))
  have ne_u_tq : u ≠ tq := Eu.neArv Aq (hw _ (List.mem_of_getElem? (i := 42) rfl))
  have ne_q_tu : q ≠ tu := Eq.neArv Au (hw _ (List.mem_of_getElem? (i := 42) rfl))
  refine aloadN (pc' := 1) dan0 rfl rfl rfl ?_
  refine astoreN (pc' := 2) (L' := #[.val (.ref u), .val (.ref q), .val (.ref u), .unset, .unset, .unset, .unset, .unset]) dan1 rfl rfl rfl ?_
  refine aloadN (pc' := 3) dan2 rfl rfl rfl ?_
  refine aloadN (pc' := 4) dan3 rfl rfl rfl ?_
  refine call (i := 156) (i2 := 43) (Wd := 0) (pc' := 7) (kVirt (i := 152) (i2 := 153) (i3 := 155) (i4 := 154) (C := "java/math/MutableBigInteger") (a := u) (argsL := [(.ref q)]) (S' := []) (Wd := 0) dan4 rfl rfl rfl rfl Eu (by decide) rfl pd_4 rfl rfl (Nat.le_of_ble_eq_true rfl)) (rm_cmp21 l Z a0 hw hEL n0 u tu q tq x y 1 _ Hu Hq) rfl rfl (by simp) (by decide) (by decide) (by decide) (by decide) rfl fun v_ h126 P127 sz128 => ?_
  obtain ⟨rfl, e129⟩ := P127
  rw [e129]
  refine at' (ce' := 0) (sl' := 0) (pc' := 7) (S' := [(.int (1 : Int32))]) rfl rfl rfl rfl rfl ?_
  refine istoreN (pc' := 8) (L' := #[.val (.ref u), .val (.ref q), .val (.ref u), .val (.int (1 : Int32)), .unset, .unset, .unset, .unset]) dan7 rfl rfl ?_
  refine iloadN (pc' := 9) dan8 rfl rfl ?_
  refine ifT (pc' := 14) dan9 (by decide : ¬ ((1 : Int32) = (0 : Int32))) (by decide) rfl ?_
  refine iloadN (pc' := 15) dan14 rfl rfl ?_
  refine ifT (pc' := 26) dan15 (by decide : ¬ ((1 : Int32) < (0 : Int32))) (by decide) rfl ?_
  refine lconst (pc' := 27) (v := (0 : Int64)) dan26 rfl rfl ?_
  refine lstore (pc' := 29) (L' := #[.val (.ref u), .val (.ref q), .val (.ref u), .val (.int (1 : Int32)), .val (.long (0 : Int64)), .second, .unset, .unset]) dan27 rfl rfl ?_
  refine aloadN (pc' := 30) dan29 rfl rfl rfl ?_
  refine getfield (i := 53) (pc' := 33) dan30 rfl Lu rfl ?_
  refine istore (pc' := 35) (L' := #[.val (.ref u), .val (.ref q), .val (.ref u), .val (.int (1 : Int32)), .val (.long (0 : Int64)), .second, .val (.int (2 : Int32)), .unset]) dan33 rfl rfl ?_
  refine aloadN (pc' := 36) dan35 rfl rfl rfl ?_
  refine getfield (i := 53) (pc' := 39) dan36 rfl Lq rfl ?_
  refine istore (pc' := 41) (L' := #[.val (.ref u), .val (.ref q), .val (.ref u), .val (.int (1 : Int32)), .val (.long (0 : Int64)), .second, .val (.int (2 : Int32)), .val (.int (1 : Int32))]) dan39 rfl rfl ?_
  refine iload (pc' := 43) dan41 rfl rfl ?_
  refine ifF (pc' := 46) dan43 (by decide : (0 : Int32) < (1 : Int32)) rfl ?_
  refine iinc (pc' := 49) (v := (1 : Int32)) (L' := #[.val (.ref u), .val (.ref q), .val (.ref u), .val (.int (1 : Int32)), .val (.long (0 : Int64)), .second, .val (.int (1 : Int32)), .val (.int (1 : Int32))]) dan46 rfl rfl rfl rfl ?_
  refine iinc (pc' := 52) (v := (0 : Int32)) (L' := #[.val (.ref u), .val (.ref q), .val (.ref u), .val (.int (1 : Int32)), .val (.long (0 : Int64)), .second, .val (.int (1 : Int32)), .val (.int (0 : Int32))]) dan49 rfl rfl rfl rfl ?_
  refine aloadN (pc' := 53) dan52 rfl rfl rfl ?_
  refine getfield (i := 68) (pc' := 56) dan53 rfl Vu rfl ?_
  refine aloadN (pc' := 57) dan56 rfl rfl rfl ?_
  refine getfield (i := 49) (pc' := 60) dan57 rfl Ou rfl ?_
  refine iload (pc' := 62) dan60 rfl rfl ?_
  refine iadd (pc' := 63) dan62 rfl ?_
  rw [show ((0 : Int32) + (1 : Int32)) = (1 : Int32) from by decide]
  refine iaload (v := (.int y)) (pc' := 64) dan63 Au ⟨by decide, by decide⟩ rfl rfl ?_
  refine i2l (pc' := 65) dan64 rfl ?_
  refine ldc2Long (i := 167) (v := (4294967295 : Int64)) (pc' := 68) dan65 rfl rfl ?_
  refine land (pc' := 69) dan68 rfl ?_
  refine aloadN (pc' := 70) dan69 rfl rfl rfl ?_
  refine getfield (i := 68) (pc' := 73) dan70 rfl Vq rfl ?_
  refine aloadN (pc' := 74) dan73 rfl rfl rfl ?_
  refine getfield (i := 49) (pc' := 77) dan74 rfl Oq rfl ?_
  refine iload (pc' := 79) dan77 rfl rfl ?_
  refine iadd (pc' := 80) dan79 rfl ?_
  rw [show ((0 : Int32) + (0 : Int32)) = (0 : Int32) from by decide]
  refine iaload (v := (.int (1 : Int32))) (pc' := 81) dan80 Aq ⟨by decide, by decide⟩ rfl rfl ?_
  refine i2l (pc' := 82) dan81 rfl ?_
  refine ldc2Long (i := 167) (v := (4294967295 : Int64)) (pc' := 85) dan82 rfl rfl ?_
  refine land (pc' := 86) dan85 rfl ?_
  refine lsub (pc' := 87) dan86 rfl ?_
  refine lload (pc' := 89) dan87 rfl rfl ?_
  refine bipush (pc' := 91) (v := (32 : Int32)) dan89 rfl rfl ?_
  refine lshr (pc' := 92) dan91 rfl ?_
  refine ladd (pc' := 93) dan92 rfl ?_
  refine lstore (pc' := 95) (L' := #[.val (.ref u), .val (.ref q), .val (.ref u), .val (.int (1 : Int32)), .val (.long ((((y.toInt64) &&& (4294967295 : Int64)) - (((1 : Int32).toInt64) &&& (4294967295 : Int64))) + ((0 : Int64) >>> ((32 : Int32) &&& 0x3f).toInt64))), .second, .val (.int (1 : Int32)), .val (.int (0 : Int32))]) dan93 rfl rfl ?_
  refine aloadN (pc' := 96) dan95 rfl rfl rfl ?_
  refine getfield (i := 68) (pc' := 99) dan96 rfl Vu rfl ?_
  refine aloadN (pc' := 100) dan99 rfl rfl rfl ?_
  refine getfield (i := 49) (pc' := 103) dan100 rfl Ou rfl ?_
  refine iload (pc' := 105) dan103 rfl rfl ?_
  refine iadd (pc' := 106) dan105 rfl ?_
  rw [show ((0 : Int32) + (1 : Int32)) = (1 : Int32) from by decide]
  refine lload (pc' := 108) dan106 rfl rfl ?_
  refine l2i (pc' := 109) dan108 rfl ?_
  refine iastore (pc' := 110) dan109 Au ⟨by decide, by decide⟩ (by simp) (Nat.le_of_ble_eq_true rfl) rfl fun h130 W131 V132 => ?_
  replace K := K.wr W131 (Or.inl (by simp))
  replace Eu := Eu.wr W131
  replace Vu := Vu.other W131 (Or.inl ne_u_tu)
  replace Ou := Ou.other W131 (Or.inl ne_u_tu)
  replace Lu := Lu.other W131 (Or.inl ne_u_tu)
  replace Eq := Eq.wr W131
  replace Vq := Vq.other W131 (Or.inl ne_q_tu)
  replace Oq := Oq.other W131 (Or.inl ne_q_tu)
  replace Lq := Lq.other W131 (Or.inl ne_q_tu)
  replace Aq := Aq.other W131 (Ne.symm n2)
  replace Au : Arv Z h130 tu ku .int (2 : Int32) [(.int x), (.int (((((y.toInt64) &&& (4294967295 : Int64)) - (((1 : Int32).toInt64) &&& (4294967295 : Int64))) + ((0 : Int64) >>> ((32 : Int32) &&& 0x3f).toInt64)).toInt32))] (.int (0 : Int32)) := V132
  refine goto (pc' := 41) dan110 (by decide) rfl ?_
  refine iload (pc' := 43) dan41 rfl rfl ?_
  refine ifT (pc' := 113) dan43 (by decide : ¬ ((0 : Int32) < (0 : Int32))) (by decide) rfl ?_
  refine lload (pc' := 115) dan113 rfl rfl ?_
  refine lconst (pc' := 116) (v := (0 : Int64)) dan115 rfl rfl ?_
  refine lcmp (pc' := 117) dan116 rfl ?_
  refine ifT (pc' := 171) dan117 (dif_nn hy : ¬ ((lcmpW ((((y.toInt64) &&& (4294967295 : Int64)) - (((1 : Int32).toInt64) &&& (4294967295 : Int64))) + ((0 : Int64) >>> ((32 : Int32) &&& 0x3f).toInt64)) (0 : Int64)) < (0 : Int32))) (by decide) rfl ?_
  refine aloadN (pc' := 172) dan171 rfl rfl rfl ?_
  refine call (i := 253) (i2 := 43) (Wd := 0) (pc' := 175) (kVirt (i := 249) (i2 := 250) (i3 := 252) (i4 := 251) (C := "java/math/MutableBigInteger") (a := u) (argsL := []) (S' := []) (Wd := 0) dan172 rfl rfl rfl rfl Eu (by decide) rfl pd_0 rfl rfl (Nat.le_of_ble_eq_true rfl)) (rm_norm l Z a0 hw hEL n0 u tu x _ _ ⟨Eu, Vu, Ou, Lu, ku, Au⟩ hx) rfl rfl (by simp) (by decide) (by decide) (by decide) (by decide) rfl fun v_ h133 P134 sz135 => ?_
  obtain ⟨rfl, e136⟩ := P134
  rw [e136]
  refine at' (ce' := 0) (sl' := 0) (pc' := 175) (S' := []) rfl rfl rfl rfl rfl ?_
  refine iloadN (pc' := 176) dan175 rfl rfl ?_
  exact retI dan176 rfl (Or.inl rfl) rfl (by decide) (by decide) ⟨rfl, K, _, dif_un hy, ⟨Eu, Vu, Ou, Lu, ku, Au⟩⟩
set_option maxRecDepth 65536 in
set_option maxHeartbeats 40000000 in
theorem rm_bg (l : Launch) (Z : State) (a0 : Array Value) (hw : ∀ d ∈ tables_1, d.before a0 Z = true) (hEL : EW Z a0 []) (n0 : Nat) (x : Int32) (h : Heap)  (ho : un x % 2 = 1) :
    Met l true Z [] n0 (⟨"java/math/MutableBigInteger", "binaryGcd", "(II)I"⟩ : MethodName) jdk_2101_method_74_code 5 (some .int) ({ frames := 1, cells := 0, slots := 0, locals := 20 } : Room) [] #[(.int x), (.int (1 : Int32))] [] h (fun v h' => v = some (.int 1) ∧ h' = h) := by
  refine Met.of_body (a0 := a0) (L0 := #[.val (.int x), .val (.int (1 : Int32)), .unset, .unset, .unset]) (plainFor_of_name (by first | (simp [plainName, overriddenIn]; done) | decide +kernel)) (fun m => by first | rfl | (simp [entryFrame, mkF, argsToLocals, Value.category]; done)) hw hEL (by decide) ?_
  have hx : ¬ x = 0 := un_ne (by omega)
  have J42 : ∀ (N : Nat) (c za zb : Int32), un c ≤ N → un c % 2 = 1 → Wq l true Z [] a0 n0 (⟨"java/math/MutableBigInteger", "binaryGcd", "(II)I"⟩ : MethodName) jdk_2101_method_74_code 5 (some .int) ({ frames := 1, cells := 0, slots := 0, locals := 20 } : Room) h (fun v h' => v = some (.int 1) ∧ h' = h) [] h 0 0 42 #[.val (.int c), .val (.int (1 : Int32)), .val (.int za), .val (.int zb), .val (.int (0 : Int32))] [] := by
    intro N
    induction N with
    | zero => intro c za zb hN hc; omega
    | succ N ih =>
      intro c za zb hN hc
      refine iloadN (pc' := 43) dao42 rfl rfl ?_
      refine iloadN (pc' := 44) dao43 rfl rfl ?_
      refine icmp (pc' := 86) (pcF := 47) dao44 (by decide) rfl rfl (fun (q0 : c = (1 : Int32)) => ?_) (fun (q0 : ¬ (c = (1 : Int32))) => ?_)
      · skip
        refine iloadN (pc' := 87) dao86 rfl rfl ?_
        refine iload (pc' := 89) dao87 rfl rfl ?_
        refine ishl (pc' := 90) dao89 rfl ?_
        rw [q0]
        rw [show ((1 : Int32) <<< ((0 : Int32) &&& 31)) = (1 : Int32) from by decide]
        exact retI dao90 rfl (Or.inl rfl) rfl (by decide) (by decide) ⟨rfl, rfl⟩
      · skip
        refine iloadN (pc' := 48) dao47 rfl rfl ?_
        refine ldcInt (i := 106) (v := (-2147483648 : Int32)) (pc' := 50) dao48 rfl rfl ?_
        refine iadd (pc' := 51) dao50 rfl ?_
        refine iloadN (pc' := 52) dao51 rfl rfl ?_
        refine ldcInt (i := 106) (v := (-2147483648 : Int32)) (pc' := 54) dao52 rfl rfl ?_
        refine iadd (pc' := 55) dao54 rfl ?_
        refine icmpF (pc' := 58) dao55 (gt1 hc q0 : ((1 : Int32) + (-2147483648 : Int32)) < (c + (-2147483648 : Int32))) rfl ?_
        refine iloadN (pc' := 59) dao58 rfl rfl ?_
        refine iloadN (pc' := 60) dao59 rfl rfl ?_
        refine isub (pc' := 61) dao60 rfl ?_
        have hc1 : un (c - 1) = un c - 1 := un_sub1 (by omega)
        have hc0 : ¬ c - 1 = 0 := un_ne (by have : un c ≠ 1 := fun e => q0 (un_inj e); omega)
        refine istoreN (pc' := 62) (L' := #[.val (.int (c - (1 : Int32))), .val (.int (1 : Int32)), .val (.int za), .val (.int zb), .val (.int (0 : Int32))]) dao61 rfl rfl ?_
        refine iloadN (pc' := 63) dao62 rfl rfl ?_
        refine iloadN (pc' := 64) dao63 rfl rfl ?_
        refine callJP (v := .int (Jvm.Free.JP.Integer_numberOfTrailingZeros_I.val (c - (1 : Int32)))) (pc' := 67) (kStatic (i := 94) (i2 := 95) (i3 := 96) (i4 := 97) (argsL := [(.int (c - (1 : Int32)))]) (S' := [(.int (c - (1 : Int32)))]) (Wd := 1) dao64 rfl rfl rfl rfl (by decide) rfl pd_2 rfl rfl (Nat.le_of_ble_eq_true rfl)) (fun hZ hw => Jvm.Free.JP.Integer_numberOfTrailingZeros_I.pays (W := 1) (c - (1 : Int32)) (own_ntz hZ hw) (by decide) (by decide)) (fun _ => And.intro rfl trivial) (by decide) (by decide) rfl ?_
        obtain ⟨z, hz, hl, ez⟩ := ntz_ex (c - 1) hc0
        rw [ez]
        refine iushr (pc' := 68) dao67 rfl ?_
        refine istoreN (pc' := 69) (L' := #[.val (.int (((c - (1 : Int32)).toUInt32 >>> ((Int32.ofNat z) &&& 31).toUInt32).toInt32)), .val (.int (1 : Int32)), .val (.int za), .val (.int zb), .val (.int (0 : Int32))]) dao68 rfl rfl ?_
        refine goto (pc' := 42) dao69 (by decide) rfl ?_
        exact ih _ za zb (by rw [un_ush _ z hz, hc1]; exact Nat.le_trans (Nat.div_le_self _ _) (by omega)) (by rw [un_ush _ z hz]; exact hl.2)
  refine iloadN (pc' := 1) dao0 rfl rfl ?_
  refine ifT (pc' := 6) dao1 (by decide : ¬ ((1 : Int32) = (0 : Int32))) (by decide) rfl ?_
  refine iloadN (pc' := 7) dao6 rfl rfl ?_
  refine ifT (pc' := 12) dao7 (hx : ¬ (x = (0 : Int32))) (by decide) rfl ?_
  refine iloadN (pc' := 13) dao12 rfl rfl ?_
  refine callJP (v := .int (Jvm.Free.JP.Integer_numberOfTrailingZeros_I.val x)) (pc' := 16) (kStatic (i := 94) (i2 := 95) (i3 := 96) (i4 := 97) (argsL := [(.int x)]) (S' := []) (Wd := 0) dao13 rfl rfl rfl rfl (by decide) rfl pd_2 rfl rfl (Nat.le_of_ble_eq_true rfl)) (fun hZ hw => Jvm.Free.JP.Integer_numberOfTrailingZeros_I.pays (W := 0) x (own_ntz hZ hw) (by decide) (by decide)) (fun _ => And.intro rfl trivial) (by decide) (by decide) rfl ?_
  obtain ⟨z, hz, hl, ez⟩ := ntz_ex x hx
  rw [ez, low_zero hl ho]
  refine istoreN (pc' := 17) (L' := #[.val (.int x), .val (.int (1 : Int32)), .val (.int (Int32.ofNat 0)), .unset, .unset]) dao16 rfl rfl ?_
  refine iloadN (pc' := 18) dao17 rfl rfl ?_
  refine callJP (v := .int (Jvm.Free.JP.Integer_numberOfTrailingZeros_I.val (1 : Int32))) (pc' := 21) (kStatic (i := 94) (i2 := 95) (i3 := 96) (i4 := 97) (argsL := [(.int (1 : Int32))]) (S' := []) (Wd := 0) dao18 rfl rfl rfl rfl (by decide) rfl pd_2 rfl rfl (Nat.le_of_ble_eq_true rfl)) (fun hZ hw => Jvm.Free.JP.Integer_numberOfTrailingZeros_I.pays (W := 0) (1 : Int32) (own_ntz hZ hw) (by decide) (by decide)) (fun _ => And.intro rfl trivial) (by decide) (by decide) rfl ?_
  rw [show (Jvm.Free.JP.Integer_numberOfTrailingZeros_I.val (1 : Int32)) = (0 : Int32) from by decide]
  refine istoreN (pc' := 22) (L' := #[.val (.int x), .val (.int (1 : Int32)), .val (.int (Int32.ofNat 0)), .val (.int (0 : Int32)), .unset]) dao21 rfl rfl ?_
  refine iloadN (pc' := 23) dao22 rfl rfl ?_
  refine iloadN (pc' := 24) dao23 rfl rfl ?_
  refine iushr (pc' := 25) dao24 rfl ?_
  rw [show ((x.toUInt32 >>> ((Int32.ofNat 0) &&& 31).toUInt32).toInt32) = x from un_inj (by rw [un_ush x 0 (by decide), Nat.pow_zero, Nat.div_one])]
  refine istoreN (pc' := 26) (L' := #[.val (.int x), .val (.int (1 : Int32)), .val (.int (Int32.ofNat 0)), .val (.int (0 : Int32)), .unset]) dao25 rfl rfl ?_
  refine iloadN (pc' := 27) dao26 rfl rfl ?_
  refine iloadN (pc' := 28) dao27 rfl rfl ?_
  refine iushr (pc' := 29) dao28 rfl ?_
  rw [show (((1 : Int32).toUInt32 >>> ((0 : Int32) &&& 31).toUInt32).toInt32) = (1 : Int32) from by decide]
  refine istoreN (pc' := 30) (L' := #[.val (.int x), .val (.int (1 : Int32)), .val (.int (Int32.ofNat 0)), .val (.int (0 : Int32)), .unset]) dao29 rfl rfl ?_
  refine iloadN (pc' := 31) dao30 rfl rfl ?_
  refine iloadN (pc' := 32) dao31 rfl rfl ?_
  refine icmpT (pc' := 39) dao32 (by decide : ¬ ((Int32.ofNat 0) < (0 : Int32))) (by decide) rfl ?_
  refine iloadN (pc' := 40) dao39 rfl rfl ?_
  refine istore (pc' := 42) (L' := #[.val (.int x), .val (.int (1 : Int32)), .val (.int (Int32.ofNat 0)), .val (.int (0 : Int32)), .val (.int (0 : Int32))]) dao40 rfl rfl ?_
  exact J42 (un x) x _ _ (Nat.le_refl _) ho
set_option maxRecDepth 65536 in
set_option maxHeartbeats 40000000 in
theorem rm_bG1 (l : Launch) (Z : State) (a0 : Array Value) (hw : ∀ d ∈ tables_1, d.before a0 Z = true) (hEL : EW Z a0 []) (n0 : Nat) (u tu q tq : Addr) (x : Int32) (h : Heap)  (Hu : MB Z h u tu 0 1 [x]) (Hq : MB Z h q tq 0 1 [1]) (n1 : u ≠ q) (n2 : tu ≠ tq) (hx : ¬ x = 0) :
    Met l true Z [] n0 (⟨"java/math/MutableBigInteger", "binaryGCD", "(Ljava/math/MutableBigInteger;)Ljava/math/MutableBigInteger;"⟩ : MethodName) jdk_2101_method_73_code 13 (some (.object "java/math/MutableBigInteger")) ({ frames := 3, cells := 2, slots := 4, locals := 60 } : Room) [] #[(.ref u), (.ref q)] [u, tu, q, tq] h (fun v h' => ∃ r tr : Addr, v = some (.ref r) ∧ Keep h h' [u, tu, q, tq] ∧ MB Z h' r tr 0 1 [1]) := by
  refine Met.of_body (a0 := a0) (L0 := #[.val (.ref u), .val (.ref q), .unset, .unset, .unset, .unset, .unset, .unset, .unset, .unset, .unset, .unset, .unset]) (plainFor_of_name (by first | (simp [plainName, overriddenIn]; done) | decide +kernel)) (fun m => by first | (simp [entryFrame, mkF, argsToLocals, Value.category]; done) | rfl) hw hEL (by decide) ?_
  have K : Keep h h [u, tu, q, tq] := Keep.refl _ _
  obtain ⟨Eu, Vu, Ou, Lu, ku, Au⟩ := id Hu
  have Au : Arv Z h tu ku .int (1 : Int32) [(.int x)] (.int (0 : Int32)) := Au
  have ne_u_tu : u ≠ tu := Eu.neArv Au (hw _ (List.mem_of_getElem? (i := 42) rfl))
  obtain ⟨Eq, Vq, Oq, Lq, kq, Aq⟩ := id Hq
  have Aq : Arv Z h tq kq .int (1 : Int32) [(.int (1 : Int32))] (.int (0 : Int32)) := Aq
  have ne_q_tq : q ≠ tq := Eq.neArv Aq (hw _ (List.mem_of_getElem? (i := 42) rfl))
  have ne_u_tq : u ≠ tq := Eu.neArv Aq (hw _ (List.mem_of_getElem? (i := 42) rfl))
  have ne_q_tu : q ≠ tu := Eq.neArv Au (hw _ (List.mem_of_getElem? (i := 42) rfl))
  refine aloadN (pc' := 1) dap0 rfl rfl rfl ?_
  refine astoreN (pc' := 2) (L' := #[.val (.ref u), .val (.ref q), .val (.ref u), .unset, .unset, .unset, .unset, .unset, .unset, .unset, .unset, .unset, .unset]) dap1 rfl rfl rfl ?_
  refine new (i := 75) (i2 := 42) (i3 := 43) (pc' := 5) dap2 rfl rfl rfl (by decide) (by decide) rfl fun h137 a138 g139 E140 A141 D142 => ?_
  have sz_a138 : h.size ≤ a138 := by rw [g139]; exact K.1
  have ne_u_a138 : u ≠ a138 := Nat.ne_of_lt (by rw [g139]; exact Hu.lt)
  have ne_tu_a138 : tu ≠ a138 := Nat.ne_of_lt (by rw [g139]; exact Hu.ltA)
  have ne_q_a138 : q ≠ a138 := Nat.ne_of_lt (by rw [g139]; exact Hq.lt)
  have ne_tq_a138 : tq ≠ a138 := Nat.ne_of_lt (by rw [g139]; exact Hq.ltA)
  replace K := K.ext E140
  replace Hu := Hu.ext E140
  replace Hq := Hq.ext E140
  have F_offset_a138 : Fld Z h137 a138 "java/math/MutableBigInteger" "offset" "I" (.int (0 : Int32)) := D142 (Or.inl (hw _ (List.mem_of_getElem? (i := 50) rfl))) (ty := .int) (by decide)
  have F_intLen_a138 : Fld Z h137 a138 "java/math/MutableBigInteger" "intLen" "I" (.int (0 : Int32)) := D142 (Or.inl (hw _ (List.mem_of_getElem? (i := 54) rfl))) (ty := .int) (by decide)
  have F_value_a138 : Fld Z h137 a138 "java/math/MutableBigInteger" "value" "[I" .null := D142 (Or.inl (hw _ (List.mem_of_getElem? (i := 69) rfl))) (ty := (.array .int)) (by decide)
  refine dup (pc' := 6) dap5 rfl rfl ?_
  have lt_r := A141.lt
  refine call (i := 78) (i2 := 43) (Wd := 1) (pc' := 9) (kInit (i := 76) (i2 := 77) (i4 := 78) (a := a138) (argsL := []) (S' := [(.ref a138)]) (Wd := 1) dap6 rfl rfl rfl rfl (by decide) rfl pd_0 rfl rfl (Nat.le_of_ble_eq_true rfl)) (rm_mb0 l Z a0 hw hEL n0 a138 _ A141 F_value_a138 F_offset_a138 F_intLen_a138) rfl rfl (by simp) (by decide) (by decide) (by decide) (by decide) rfl fun v_ h143 P144 sz145 => ?_
  obtain ⟨tr, rfl, Kr, htr, Hr⟩ := P144
  have sz_tr : h.size ≤ tr := Nat.le_trans K.1 htr
  have ne_u_tr : u ≠ tr := Nat.ne_of_lt (Nat.lt_of_lt_of_le Hu.lt htr)
  have ne_tu_tr : tu ≠ tr := Nat.ne_of_lt (Nat.lt_of_lt_of_le Hu.ltA htr)
  have ne_q_tr : q ≠ tr := Nat.ne_of_lt (Nat.lt_of_lt_of_le Hq.lt htr)
  have ne_tq_tr : tq ≠ tr := Nat.ne_of_lt (Nat.lt_of_lt_of_le Hq.ltA htr)
  have ne_a138_tr : a138 ≠ tr := Nat.ne_of_lt (Nat.lt_of_lt_of_le A141.lt htr)
  replace K := K.trans Kr (allS (Or.inr sz_a138) all0)
  replace Hu := Hu.keep Kr (ninS ne_u_a138 nin0) (ninS ne_tu_a138 nin0)
  replace Hq := Hq.keep Kr (ninS ne_q_a138 nin0) (ninS ne_tq_a138 nin0)
  refine fsz fun Fz => ?_
  have nb_r : n0 ≤ tr := Nat.le_trans (Fz a138 (by simp)).1 (Nat.le_trans (Nat.le_of_lt lt_r) htr)
  refine adopt rfl nb_r Hr.ltA ?_
  refine at' (ce' := 2) (sl' := 4) (pc' := 9) (S' := [(.ref a138)]) rfl rfl rfl rfl rfl ?_
  refine astoreN (pc' := 10) (L' := #[.val (.ref u), .val (.ref q), .val (.ref u), .val (.ref a138), .unset, .unset, .unset, .unset, .unset, .unset, .unset, .unset, .unset]) dap9 rfl rfl rfl ?_
  refine aloadN (pc' := 11) dap10 rfl rfl rfl ?_
  have J1 : ∀ (hh : Heap) (x' c1 uo ts lb : Int32) (tt : Addr), un x' % 2 = 1 → Keep h hh [u, tu, q, tq] → MB Z hh u tu 0 1 [x'] → MB Z hh q tq 0 1 [1] → MB Z hh a138 tr 0 0 [0] → Wq l true Z [] a0 n0 (⟨"java/math/MutableBigInteger", "binaryGCD", "(Ljava/math/MutableBigInteger;)Ljava/math/MutableBigInteger;"⟩ : MethodName) jdk_2101_method_73_code 13 (some (.object "java/math/MutableBigInteger")) ({ frames := 3, cells := 2, slots := 4, locals := 60 } : Room) h (fun v h' => ∃ r tr : Addr, v = some (.ref r) ∧ Keep h h' [u, tu, q, tq] ∧ MB Z h' r tr 0 1 [1]) [tr, a138, u, tu, q, tq] hh 2 4 125 #[.val (.ref u), .val (.ref q), .val (.ref u), .val (.ref a138), .val (.int c1), .val (.int (0 : Int32)), .val (.int (0 : Int32)), .val (.int uo), .val (.ref tt), .val (.int ts), .val (.int lb), .unset, .unset] [] := by
    intro hh x' c1 uo ts lb tt hx' K Hu Hq Hr
    obtain ⟨Eu, Vu, Ou, Lu, ku, Au⟩ := id Hu
    have Au : Arv Z hh tu ku .int (1 : Int32) [(.int x')] (.int (0 : Int32)) := Au
    obtain ⟨Eq, Vq, Oq, Lq, kq, Aq⟩ := id Hq
    have Aq : Arv Z hh tq kq .int (1 : Int32) [(.int (1 : Int32))] (.int (0 : Int32)) := Aq
    obtain ⟨Er, Vr, Ofr, Lr, kr, Ar⟩ := id Hr
    have Ar : Arv Z hh tr kr .int (1 : Int32) [(.int (0 : Int32))] (.int (0 : Int32)) := Ar
    refine aloadN (pc' := 126) dap125 rfl rfl rfl ?_
    refine getfield (i := 53) (pc' := 129) dap126 rfl Lu rfl ?_
    refine iconst (pc' := 130) (v := (2 : Int32)) dap129 rfl rfl ?_
    refine icmpF (pc' := 133) dap130 (by decide : (1 : Int32) < (2 : Int32)) rfl ?_
    refine aloadN (pc' := 134) dap133 rfl rfl rfl ?_
    refine getfield (i := 53) (pc' := 137) dap134 rfl Lq rfl ?_
    refine iconst (pc' := 138) (v := (2 : Int32)) dap137 rfl rfl ?_
    refine icmpF (pc' := 141) dap138 (by decide : (1 : Int32) < (2 : Int32)) rfl ?_
    refine aloadN (pc' := 142) dap141 rfl rfl rfl ?_
    refine getfield (i := 68) (pc' := 145) dap142 rfl Vu rfl ?_
    refine aloadN (pc' := 146) dap145 rfl rfl rfl ?_
    refine getfield (i := 49) (pc' := 149) dap146 rfl Ou rfl ?_
    refine iaload (v := (.int x')) (pc' := 150) dap149 Au ⟨by decide, by decide⟩ rfl rfl ?_
    refine istore (pc' := 152) (L' := #[.val (.ref u), .val (.ref q), .val (.ref u), .val (.ref a138), .val (.int c1), .val (.int (0 : Int32)), .val (.int (0 : Int32)), .val (.int uo), .val (.ref tt), .val (.int ts), .val (.int lb), .val (.int x'), .unset]) dap150 rfl rfl ?_
    refine aloadN (pc' := 153) dap152 rfl rfl rfl ?_
    refine getfield (i := 68) (pc' := 156) dap153 rfl Vq rfl ?_
    refine aloadN (pc' := 157) dap156 rfl rfl rfl ?_
    refine getfield (i := 49) (pc' := 160) dap157 rfl Oq rfl ?_
    refine iaload (v := (.int (1 : Int32))) (pc' := 161) dap160 Aq ⟨by decide, by decide⟩ rfl rfl ?_
    refine istore (pc' := 163) (L' := #[.val (.ref u), .val (.ref q), .val (.ref u), .val (.ref a138), .val (.int c1), .val (.int (0 : Int32)), .val (.int (0 : Int32)), .val (.int uo), .val (.ref tt), .val (.int ts), .val (.int lb), .val (.int x'), .val (.int (1 : Int32))]) dap161 rfl rfl ?_
    refine iload (pc' := 165) dap163 rfl rfl ?_
    refine iload (pc' := 167) dap165 rfl rfl ?_
    refine call (i := 105) (i2 := 43) (Wd := 0) (pc' := 170) (kStatic (i := 103) (i2 := 104) (i3 := 43) (i4 := 105) (argsL := [(.int x'), (.int (1 : Int32))]) (S' := []) (Wd := 0) dap167 rfl rfl rfl rfl (by decide) rfl pd_5 rfl rfl (Nat.le_of_ble_eq_true rfl)) (rm_bg l Z a0 hw hEL n0 x' _ hx') rfl rfl (by simp) (by decide) (by decide) (by decide) (by decide) rfl fun v_ h146 P147 sz148 => ?_
    obtain ⟨rfl, e149⟩ := P147
    rw [e149]
    refine at' (ce' := 2) (sl' := 4) (pc' := 170) (S' := [(.int (1 : Int32))]) rfl rfl rfl rfl rfl ?_
    refine istore (pc' := 172) (L' := #[.val (.ref u), .val (.ref q), .val (.ref u), .val (.ref a138), .val (.int c1), .val (.int (0 : Int32)), .val (.int (0 : Int32)), .val (.int uo), .val (.ref tt), .val (.int ts), .val (.int lb), .val (.int (1 : Int32)), .val (.int (1 : Int32))]) dap170 rfl rfl ?_
    refine aloadN (pc' := 173) dap172 rfl rfl rfl ?_
    refine getfield (i := 68) (pc' := 176) dap173 rfl Vr rfl ?_
    refine iconst (pc' := 177) (v := (0 : Int32)) dap176 rfl rfl ?_
    refine iload (pc' := 179) dap177 rfl rfl ?_
    refine iastore (pc' := 180) dap179 Ar ⟨by decide, by decide⟩ (by simp) (Nat.le_of_ble_eq_true rfl) rfl fun h150 W151 V152 => ?_
    replace K := K.wr W151 (Or.inr sz_tr)
    replace Eu := Eu.wr W151
    replace Vu := Vu.other W151 (Or.inl ne_u_tr)
    replace Ou := Ou.other W151 (Or.inl ne_u_tr)
    replace Lu := Lu.other W151 (Or.inl ne_u_tr)
    replace Au := Au.other W151 ne_tu_tr
    replace Eq := Eq.wr W151
    replace Vq := Vq.other W151 (Or.inl ne_q_tr)
    replace Oq := Oq.other W151 (Or.inl ne_q_tr)
    replace Lq := Lq.other W151 (Or.inl ne_q_tr)
    replace Aq := Aq.other W151 ne_tq_tr
    replace Er := Er.wr W151
    replace Vr := Vr.other W151 (Or.inl ne_a138_tr)
    replace Ofr := Ofr.other W151 (Or.inl ne_a138_tr)
    replace Lr := Lr.other W151 (Or.inl ne_a138_tr)
    replace Ar : Arv Z h150 tr kr .int (1 : Int32) [(.int (1 : Int32))] (.int (0 : Int32)) := V152
    refine aloadN (pc' := 181) dap180 rfl rfl rfl ?_
    refine iconst (pc' := 182) (v := (1 : Int32)) dap181 rfl rfl ?_
    refine putfield (i := 53) (i2 := 54) (i3 := 42) (pc' := 185) (v' := (.int (1 : Int32))) (ty := .int) dap182 rfl (Or.inl rfl) rfl Lr Er (by decide) rfl rfl (by simp) rfl fun h153 W154 => ?_
    replace K := K.wr W154 (Or.inr sz_a138)
    replace Eu := Eu.wr W154
    replace Vu := Vu.other W154 (Or.inl ne_u_a138)
    replace Ou := Ou.other W154 (Or.inl ne_u_a138)
    replace Lu := Lu.other W154 (Or.inl ne_u_a138)
    replace Au := Au.other W154 ne_tu_a138
    replace Eq := Eq.wr W154
    replace Vq := Vq.other W154 (Or.inl ne_q_a138)
    replace Oq := Oq.other W154 (Or.inl ne_q_a138)
    replace Lq := Lq.other W154 (Or.inl ne_q_a138)
    replace Aq := Aq.other W154 ne_tq_a138
    replace Er := Er.wr W154
    replace Vr := Vr.other W154 (Or.inr (slot_ne (Or.inl (hw _ (List.mem_of_getElem? (i := 69) rfl))) (Or.inl (hw _ (List.mem_of_getElem? (i := 54) rfl))) (by decide) (t := (.array .int)) (t' := .int) (by decide) (by decide)))
    replace Ofr := Ofr.other W154 (Or.inr (slot_ne (Or.inl (hw _ (List.mem_of_getElem? (i := 50) rfl))) (Or.inl (hw _ (List.mem_of_getElem? (i := 54) rfl))) (by decide) (t := .int) (t' := .int) (by decide) (by decide)))
    replace Lr := Lr.same W154
    replace Ar := Ar.other W154 (Ne.symm ne_a138_tr)
    refine aloadN (pc' := 186) dap185 rfl rfl rfl ?_
    refine iconst (pc' := 187) (v := (0 : Int32)) dap186 rfl rfl ?_
    refine putfield (i := 49) (i2 := 50) (i3 := 42) (pc' := 190) (v' := (.int (0 : Int32))) (ty := .int) dap187 rfl (Or.inl rfl) rfl Ofr Er (by decide) rfl rfl (by simp) rfl fun h155 W156 => ?_
    replace K := K.wr W156 (Or.inr sz_a138)
    replace Eu := Eu.wr W156
    replace Vu := Vu.other W156 (Or.inl ne_u_a138)
    replace Ou := Ou.other W156 (Or.inl ne_u_a138)
    replace Lu := Lu.other W156 (Or.inl ne_u_a138)
    replace Au := Au.other W156 ne_tu_a138
    replace Eq := Eq.wr W156
    replace Vq := Vq.other W156 (Or.inl ne_q_a138)
    replace Oq := Oq.other W156 (Or.inl ne_q_a138)
    replace Lq := Lq.other W156 (Or.inl ne_q_a138)
    replace Aq := Aq.other W156 ne_tq_a138
    replace Er := Er.wr W156
    replace Vr := Vr.other W156 (Or.inr (slot_ne (Or.inl (hw _ (List.mem_of_getElem? (i := 69) rfl))) (Or.inl (hw _ (List.mem_of_getElem? (i := 50) rfl))) (by decide) (t := (.array .int)) (t' := .int) (by decide) (by decide)))
    replace Ofr := Ofr.same W156
    replace Lr := Lr.other W156 (Or.inr (slot_ne (Or.inl (hw _ (List.mem_of_getElem? (i := 54) rfl))) (Or.inl (hw _ (List.mem_of_getElem? (i := 50) rfl))) (by decide) (t := .int) (t' := .int) (by decide) (by decide)))
    replace Ar := Ar.other W156 (Ne.symm ne_a138_tr)
    refine iload (pc' := 192) dap190 rfl rfl ?_
    refine ifT (pc' := 201) dap192 (by decide : ¬ ((0 : Int32) < (0 : Int32))) (by decide) rfl ?_
    refine aloadN (pc' := 202) dap201 rfl rfl rfl ?_
    exact retA dap202 rfl rfl rfl (by decide) (by decide) ⟨a138, tr, rfl, K, ⟨Er, Vr, Ofr, Lr, kr, Ar⟩⟩
  refine call (i := 93) (i2 := 43) (Wd := 0) (pc' := 14) (kPriv (i := 89) (i2 := 90) (i3 := 73) (i4 := 93) (i5 := 91) (a := u) (argsL := []) (S' := []) (Wd := 0) dap11 rfl rfl rfl rfl rfl rfl (Hu.1) (by decide) rfl pd_6 rfl rfl (Nat.le_of_ble_eq_true rfl)) (rm_lsb11 l Z a0 hw hEL n0 u tu x _ Hu hx) rfl rfl (by simp) (by decide) (by decide) (by decide) (by decide) rfl fun v_ h157 P158 sz159 => ?_
  obtain ⟨s1, rfl, hs1, e160⟩ := P158
  rw [e160]
  refine at' (ce' := 2) (sl' := 4) (pc' := 14) (S' := [(.int s1)]) rfl rfl rfl rfl rfl ?_
  refine istore (pc' := 16) (L' := #[.val (.ref u), .val (.ref q), .val (.ref u), .val (.ref a138), .val (.int s1), .unset, .unset, .unset, .unset, .unset, .unset, .unset, .unset]) dap14 rfl rfl ?_
  refine aloadN (pc' := 17) dap16 rfl rfl rfl ?_
  refine call (i := 93) (i2 := 43) (Wd := 0) (pc' := 20) (kPriv (i := 89) (i2 := 90) (i3 := 73) (i4 := 93) (i5 := 91) (a := q) (argsL := []) (S' := []) (Wd := 0) dap17 rfl rfl rfl rfl rfl rfl (Hq.1) (by decide) rfl pd_6 rfl rfl (Nat.le_of_ble_eq_true rfl)) (rm_lsb11 l Z a0 hw hEL n0 q tq 1 _ Hq (by decide)) rfl rfl (by simp) (by decide) (by decide) (by decide) (by decide) rfl fun v_ h161 P162 sz163 => ?_
  obtain ⟨s2, rfl, hs2, e164⟩ := P162
  rw [e164]
  obtain rfl : s2 = 0 := hs2.zero rfl
  refine at' (ce' := 2) (sl' := 4) (pc' := 20) (S' := [(.int (0 : Int32))]) rfl rfl rfl rfl rfl ?_
  refine istore (pc' := 22) (L' := #[.val (.ref u), .val (.ref q), .val (.ref u), .val (.ref a138), .val (.int s1), .val (.int (0 : Int32)), .unset, .unset, .unset, .unset, .unset, .unset, .unset]) dap20 rfl rfl ?_
  refine iload (pc' := 24) dap22 rfl rfl ?_
  refine iload (pc' := 26) dap24 rfl rfl ?_
  refine icmpT (pc' := 34) dap26 (hs1.nn : ¬ (s1 < (0 : Int32))) (by decide) rfl ?_
  refine iload (pc' := 36) dap34 rfl rfl ?_
  refine istore (pc' := 38) (L' := #[.val (.ref u), .val (.ref q), .val (.ref u), .val (.ref a138), .val (.int s1), .val (.int (0 : Int32)), .val (.int (0 : Int32)), .unset, .unset, .unset, .unset, .unset, .unset]) dap36 rfl rfl ?_
  refine iload (pc' := 40) dap38 rfl rfl ?_
  refine ifT (pc' := 55) dap40 (rfl : (0 : Int32) = (0 : Int32)) (by decide) rfl ?_
  refine iload (pc' := 57) dap55 rfl rfl ?_
  refine iload (pc' := 59) dap57 rfl rfl ?_
  refine icmp (pc' := 66) (pcF := 62) dap59 (by decide) rfl rfl (fun (q0 : ¬ ((0 : Int32) = s1)) => ?_) (fun (q0 : (0 : Int32) = s1) => ?_)
  · skip
    refine iconst (pc' := 67) (v := (0 : Int32)) dap66 rfl rfl ?_
    refine istore (pc' := 69) (L' := #[.val (.ref u), .val (.ref q), .val (.ref u), .val (.ref a138), .val (.int s1), .val (.int (0 : Int32)), .val (.int (0 : Int32)), .val (.int (0 : Int32)), .unset, .unset, .unset, .unset, .unset]) dap67 rfl rfl ?_
    refine iload (pc' := 71) dap69 rfl rfl ?_
    refine ifT (pc' := 78) dap71 (rfl : (0 : Int32) = (0 : Int32)) (by decide) rfl ?_
    refine aloadN (pc' := 79) dap78 rfl rfl rfl ?_
    refine astore (pc' := 81) (L' := #[.val (.ref u), .val (.ref q), .val (.ref u), .val (.ref a138), .val (.int s1), .val (.int (0 : Int32)), .val (.int (0 : Int32)), .val (.int (0 : Int32)), .val (.ref u), .unset, .unset, .unset, .unset]) dap79 rfl rfl rfl ?_
    refine iload (pc' := 83) dap81 rfl rfl ?_
    refine ifT (pc' := 90) dap83 (rfl : (0 : Int32) = (0 : Int32)) (by decide) rfl ?_
    refine iconst (pc' := 91) (v := (1 : Int32)) dap90 rfl rfl ?_
    refine istore (pc' := 93) (L' := #[.val (.ref u), .val (.ref q), .val (.ref u), .val (.ref a138), .val (.int s1), .val (.int (0 : Int32)), .val (.int (0 : Int32)), .val (.int (0 : Int32)), .val (.ref u), .val (.int (1 : Int32)), .unset, .unset, .unset]) dap91 rfl rfl ?_
    refine aload (pc' := 95) dap93 rfl rfl rfl ?_
    have hev : un x % 2 = 0 := own_ev fun q => q0 (hs1.zero q).symm
    refine call (i := 93) (i2 := 43) (Wd := 0) (pc' := 98) (kPriv (i := 89) (i2 := 90) (i3 := 73) (i4 := 93) (i5 := 91) (a := u) (argsL := []) (S' := []) (Wd := 0) dap95 rfl rfl rfl rfl rfl rfl (Hu.1) (by decide) rfl pd_6 rfl rfl (Nat.le_of_ble_eq_true rfl)) (rm_lsb11 l Z a0 hw hEL n0 u tu x _ Hu hx) rfl rfl (by simp) (by decide) (by decide) (by decide) (by decide) rfl fun v_ h165 P166 sz167 => ?_
    obtain ⟨lb2, rfl, hlb, e168⟩ := P166
    rw [e168]
    refine at' (ce' := 2) (sl' := 4) (pc' := 98) (S' := [(.int lb2)]) rfl rfl rfl rfl rfl ?_
    refine dup (pc' := 99) dap98 rfl rfl ?_
    refine istore (pc' := 101) (L' := #[.val (.ref u), .val (.ref q), .val (.ref u), .val (.ref a138), .val (.int s1), .val (.int (0 : Int32)), .val (.int (0 : Int32)), .val (.int (0 : Int32)), .val (.ref u), .val (.int (1 : Int32)), .val (.int lb2), .unset, .unset]) dap99 rfl rfl ?_
    refine ifF (pc' := 104) dap101 (hlb.nn : ¬ (lb2 < (0 : Int32))) rfl ?_
    refine aload (pc' := 106) dap104 rfl rfl rfl ?_
    refine iload (pc' := 108) dap106 rfl rfl ?_
    obtain ⟨z, h1, hz, hl, rfl⟩ := hlb.pos (hlb.even hev)
    refine call (i := 102) (i2 := 43) (Wd := 0) (pc' := 111) (kVirt (i := 98) (i2 := 99) (i3 := 101) (i4 := 100) (C := "java/math/MutableBigInteger") (a := u) (argsL := [(.int (Int32.ofNat z))]) (S' := []) (Wd := 0) dap108 rfl rfl rfl rfl (Hu.1) (by decide) rfl pd_3 rfl rfl (Nat.le_of_ble_eq_true rfl)) (rm_rs11 l Z a0 hw hEL n0 u tu x z _ Hu hx h1 hz hl) rfl rfl (by simp) (by decide) (by decide) (by decide) (by decide) rfl fun v_ h169 P170 sz171 => ?_
    obtain ⟨rfl, Ks, x3, hx3, Hu3⟩ := P170
    replace K := K.trans Ks (allS (Or.inl (by simp)) (allS (Or.inl (by simp)) all0))
    replace Hq := Hq.keep Ks (ninS (Ne.symm n1) (ninS ne_q_tu nin0)) (ninS (Ne.symm ne_u_tq) (ninS (Ne.symm n2) nin0))
    replace Hr := Hr.keep Ks (ninS (Ne.symm ne_u_a138) (ninS (Ne.symm ne_tu_a138) nin0)) (ninS (Ne.symm ne_u_tr) (ninS (Ne.symm ne_tu_tr) nin0))
    refine at' (ce' := 2) (sl' := 4) (pc' := 111) (S' := []) rfl rfl rfl rfl rfl ?_
    refine iload (pc' := 113) dap111 rfl rfl ?_
    refine ifF (pc' := 116) dap113 (by decide : (0 : Int32) < (1 : Int32)) rfl ?_
    refine aload (pc' := 118) dap116 rfl rfl rfl ?_
    refine astoreN (pc' := 119) (L' := #[.val (.ref u), .val (.ref q), .val (.ref u), .val (.ref a138), .val (.int s1), .val (.int (0 : Int32)), .val (.int (0 : Int32)), .val (.int (0 : Int32)), .val (.ref u), .val (.int (1 : Int32)), .val (.int (Int32.ofNat z)), .unset, .unset]) dap118 rfl rfl rfl ?_
    refine goto (pc' := 125) dap119 (by decide) rfl ?_
    exact J1 _ x3 _ _ _ _ _ hx3 K Hu3 Hq Hr
  · skip
    subst q0
    refine at' (ce' := 2) (sl' := 4) (pc' := 62) (S' := []) rfl rfl rfl rfl rfl ?_
    refine iconst (pc' := 63) (v := (1 : Int32)) dap62 rfl rfl ?_
    refine goto (pc' := 67) dap63 (by decide) rfl ?_
    refine istore (pc' := 69) (L' := #[.val (.ref u), .val (.ref q), .val (.ref u), .val (.ref a138), .val (.int (0 : Int32)), .val (.int (0 : Int32)), .val (.int (0 : Int32)), .val (.int (1 : Int32)), .unset, .unset, .unset, .unset, .unset]) dap67 rfl rfl ?_
    refine iload (pc' := 71) dap69 rfl rfl ?_
    refine ifF (pc' := 74) dap71 (by decide : ¬ ((1 : Int32) = (0 : Int32))) rfl ?_
    refine aloadN (pc' := 75) dap74 rfl rfl rfl ?_
    refine goto (pc' := 79) dap75 (by decide) rfl ?_
    refine astore (pc' := 81) (L' := #[.val (.ref u), .val (.ref q), .val (.ref u), .val (.ref a138), .val (.int (0 : Int32)), .val (.int (0 : Int32)), .val (.int (0 : Int32)), .val (.int (1 : Int32)), .val (.ref q), .unset, .unset, .unset, .unset]) dap79 rfl rfl rfl ?_
    refine iload (pc' := 83) dap81 rfl rfl ?_
    refine ifF (pc' := 86) dap83 (by decide : ¬ ((1 : Int32) = (0 : Int32))) rfl ?_
    refine iconst (pc' := 87) (v := (-1 : Int32)) dap86 rfl rfl ?_
    refine goto (pc' := 91) dap87 (by decide) rfl ?_
    refine istore (pc' := 93) (L' := #[.val (.ref u), .val (.ref q), .val (.ref u), .val (.ref a138), .val (.int (0 : Int32)), .val (.int (0 : Int32)), .val (.int (0 : Int32)), .val (.int (1 : Int32)), .val (.ref q), .val (.int (-1 : Int32)), .unset, .unset, .unset]) dap91 rfl rfl ?_
    refine aload (pc' := 95) dap93 rfl rfl rfl ?_
    refine call (i := 93) (i2 := 43) (Wd := 0) (pc' := 98) (kPriv (i := 89) (i2 := 90) (i3 := 73) (i4 := 93) (i5 := 91) (a := q) (argsL := []) (S' := []) (Wd := 0) dap95 rfl rfl rfl rfl rfl rfl (Hq.1) (by decide) rfl pd_6 rfl rfl (Nat.le_of_ble_eq_true rfl)) (rm_lsb11 l Z a0 hw hEL n0 q tq 1 _ Hq (by decide)) rfl rfl (by simp) (by decide) (by decide) (by decide) (by decide) rfl fun v_ h172 P173 sz174 => ?_
    obtain ⟨lb2, rfl, hlb, e175⟩ := P173
    rw [e175]
    obtain rfl : lb2 = 0 := hlb.zero rfl
    refine at' (ce' := 2) (sl' := 4) (pc' := 98) (S' := [(.int (0 : Int32))]) rfl rfl rfl rfl rfl ?_
    refine dup (pc' := 99) dap98 rfl rfl ?_
    refine istore (pc' := 101) (L' := #[.val (.ref u), .val (.ref q), .val (.ref u), .val (.ref a138), .val (.int (0 : Int32)), .val (.int (0 : Int32)), .val (.int (0 : Int32)), .val (.int (1 : Int32)), .val (.ref q), .val (.int (-1 : Int32)), .val (.int (0 : Int32)), .unset, .unset]) dap99 rfl rfl ?_
    refine ifF (pc' := 104) dap101 (by decide : ¬ ((0 : Int32) < (0 : Int32))) rfl ?_
    refine aload (pc' := 106) dap104 rfl rfl rfl ?_
    refine iload (pc' := 108) dap106 rfl rfl ?_
    refine call (i := 102) (i2 := 43) (Wd := 0) (pc' := 111) (kVirt (i := 98) (i2 := 99) (i3 := 101) (i4 := 100) (C := "java/math/MutableBigInteger") (a := q) (argsL := [(.int (0 : Int32))]) (S' := []) (Wd := 0) dap108 rfl rfl rfl rfl (Hq.1) (by decide) rfl pd_3 rfl rfl (Nat.le_of_ble_eq_true rfl)) (rm_rs0 l Z a0 hw hEL n0 q tq 1 _ Hq) rfl rfl (by simp) (by decide) (by decide) (by decide) (by decide) rfl fun v_ h176 P177 sz178 => ?_
    obtain ⟨rfl, Ks, Hq3⟩ := P177
    replace K := K.trans Ks (allS (Or.inl (by simp)) (allS (Or.inl (by simp)) all0))
    replace Hu := Hu.keep Ks (ninS n1 (ninS ne_u_tq nin0)) (ninS (Ne.symm ne_q_tu) (ninS n2 nin0))
    replace Hr := Hr.keep Ks (ninS (Ne.symm ne_q_a138) (ninS (Ne.symm ne_tq_a138) nin0)) (ninS (Ne.symm ne_q_tr) (ninS (Ne.symm ne_tq_tr) nin0))
    refine at' (ce' := 2) (sl' := 4) (pc' := 111) (S' := []) rfl rfl rfl rfl rfl ?_
    refine iload (pc' := 113) dap111 rfl rfl ?_
    refine ifT (pc' := 122) dap113 (by decide : ¬ ((0 : Int32) < (-1 : Int32))) (by decide) rfl ?_
    refine aload (pc' := 124) dap122 rfl rfl rfl ?_
    refine astoreN (pc' := 125) (L' := #[.val (.ref u), .val (.ref q), .val (.ref u), .val (.ref a138), .val (.int (0 : Int32)), .val (.int (0 : Int32)), .val (.int (0 : Int32)), .val (.int (1 : Int32)), .val (.ref q), .val (.int (-1 : Int32)), .val (.int (0 : Int32)), .unset, .unset]) dap124 rfl rfl rfl ?_
    exact J1 _ x _ _ _ _ _ (hs1.odd rfl) K Hu Hq3 Hr
set_option maxRecDepth 65536 in
set_option maxHeartbeats 40000000 in
theorem rm_bG2 (l : Launch) (Z : State) (a0 : Array Value) (hw : ∀ d ∈ tables_1, d.before a0 Z = true) (hEL : EW Z a0 []) (n0 : Nat) (u tu q tq : Addr) (x y : Int32) (h : Heap)  (Hu : MB Z h u tu 0 2 [x, y]) (Hq : MB Z h q tq 0 1 [1]) (n1 : u ≠ q) (n2 : tu ≠ tq) (hx : ¬ x = 0) :
    Met l true Z [] n0 (⟨"java/math/MutableBigInteger", "binaryGCD", "(Ljava/math/MutableBigInteger;)Ljava/math/MutableBigInteger;"⟩ : MethodName) jdk_2101_method_73_code 13 (some (.object "java/math/MutableBigInteger")) ({ frames := 3, cells := 2, slots := 4, locals := 60 } : Room) [] #[(.ref u), (.ref q)] [u, tu, q, tq] h (fun v h' => ∃ r tr : Addr, v = some (.ref r) ∧ Keep h h' [u, tu, q, tq] ∧ MB Z h' r tr 0 1 [1]) := by
  refine Met.of_body (a0 := a0) (L0 := #[.val (.ref u), .val (.ref q), .unset, .unset, .unset, .unset, .unset, .unset, .unset, .unset, .unset, .unset, .unset]) (plainFor_of_name (by first | (simp [plainName, overriddenIn]; done) | decide +kernel)) (fun m => by first | (simp [entryFrame, mkF, argsToLocals, Value.category]; done) | rfl) hw hEL (by decide) ?_
  have K : Keep h h [u, tu, q, tq] := Keep.refl _ _
  obtain ⟨Eu, Vu, Ou, Lu, ku, Au⟩ := id Hu
  have Au : Arv Z h tu ku .int (2 : Int32) [(.int x), (.int y)] (.int (0 : Int32)) := Au
  have ne_u_tu : u ≠ tu := Eu.neArv Au (hw _ (List.mem_of_getElem? (i := 42) rfl))
  obtain ⟨Eq, Vq, Oq, Lq, kq, Aq⟩ := id Hq
  have Aq : Arv Z h tq kq .int (1 : Int32) [(.int (1 : Int32))] (.int (0 : Int32)) := Aq
  have ne_q_tq : q ≠ tq := Eq.neArv Aq (hw _ (List.mem_of_getElem? (i := 42) rfl))
  have ne_u_tq : u ≠ tq := Eu.neArv Aq (hw _ (List.mem_of_getElem? (i := 42) rfl))
  have ne_q_tu : q ≠ tu := Eq.neArv Au (hw _ (List.mem_of_getElem? (i := 42) rfl))
  refine aloadN (pc' := 1) dap0 rfl rfl rfl ?_
  refine astoreN (pc' := 2) (L' := #[.val (.ref u), .val (.ref q), .val (.ref u), .unset, .unset, .unset, .unset, .unset, .unset, .unset, .unset, .unset, .unset]) dap1 rfl rfl rfl ?_
  refine new (i := 75) (i2 := 42) (i3 := 43) (pc' := 5) dap2 rfl rfl rfl (by decide) (by decide) rfl fun h179 a180 g181 E182 A183 D184 => ?_
  have sz_a180 : h.size ≤ a180 := by rw [g181]; exact K.1
  have ne_u_a180 : u ≠ a180 := Nat.ne_of_lt (by rw [g181]; exact Hu.lt)
  have ne_tu_a180 : tu ≠ a180 := Nat.ne_of_lt (by rw [g181]; exact Hu.ltA)
  have ne_q_a180 : q ≠ a180 := Nat.ne_of_lt (by rw [g181]; exact Hq.lt)
  have ne_tq_a180 : tq ≠ a180 := Nat.ne_of_lt (by rw [g181]; exact Hq.ltA)
  replace K := K.ext E182
  replace Hu := Hu.ext E182
  replace Hq := Hq.ext E182
  have F_offset_a180 : Fld Z h179 a180 "java/math/MutableBigInteger" "offset" "I" (.int (0 : Int32)) := D184 (Or.inl (hw _ (List.mem_of_getElem? (i := 50) rfl))) (ty := .int) (by decide)
  have F_intLen_a180 : Fld Z h179 a180 "java/math/MutableBigInteger" "intLen" "I" (.int (0 : Int32)) := D184 (Or.inl (hw _ (List.mem_of_getElem? (i := 54) rfl))) (ty := .int) (by decide)
  have F_value_a180 : Fld Z h179 a180 "java/math/MutableBigInteger" "value" "[I" .null := D184 (Or.inl (hw _ (List.mem_of_getElem? (i := 69) rfl))) (ty := (.array .int)) (by decide)
  refine dup (pc' := 6) dap5 rfl rfl ?_
  have lt_r := A183.lt
  refine call (i := 78) (i2 := 43) (Wd := 1) (pc' := 9) (kInit (i := 76) (i2 := 77) (i4 := 78) (a := a180) (argsL := []) (S' := [(.ref a180)]) (Wd := 1) dap6 rfl rfl rfl rfl (by decide) rfl pd_0 rfl rfl (Nat.le_of_ble_eq_true rfl)) (rm_mb0 l Z a0 hw hEL n0 a180 _ A183 F_value_a180 F_offset_a180 F_intLen_a180) rfl rfl (by simp) (by decide) (by decide) (by decide) (by decide) rfl fun v_ h185 P186 sz187 => ?_
  obtain ⟨tr, rfl, Kr, htr, Hr⟩ := P186
  have sz_tr : h.size ≤ tr := Nat.le_trans K.1 htr
  have ne_u_tr : u ≠ tr := Nat.ne_of_lt (Nat.lt_of_lt_of_le Hu.lt htr)
  have ne_tu_tr : tu ≠ tr := Nat.ne_of_lt (Nat.lt_of_lt_of_le Hu.ltA htr)
  have ne_q_tr : q ≠ tr := Nat.ne_of_lt (Nat.lt_of_lt_of_le Hq.lt htr)
  have ne_tq_tr : tq ≠ tr := Nat.ne_of_lt (Nat.lt_of_lt_of_le Hq.ltA htr)
  have ne_a180_tr : a180 ≠ tr := Nat.ne_of_lt (Nat.lt_of_lt_of_le A183.lt htr)
  replace K := K.trans Kr (allS (Or.inr sz_a180) all0)
  replace Hu := Hu.keep Kr (ninS ne_u_a180 nin0) (ninS ne_tu_a180 nin0)
  replace Hq := Hq.keep Kr (ninS ne_q_a180 nin0) (ninS ne_tq_a180 nin0)
  refine fsz fun Fz => ?_
  have nb_r : n0 ≤ tr := Nat.le_trans (Fz a180 (by simp)).1 (Nat.le_trans (Nat.le_of_lt lt_r) htr)
  refine adopt rfl nb_r Hr.ltA ?_
  refine at' (ce' := 2) (sl' := 4) (pc' := 9) (S' := [(.ref a180)]) rfl rfl rfl rfl rfl ?_
  refine astoreN (pc' := 10) (L' := #[.val (.ref u), .val (.ref q), .val (.ref u), .val (.ref a180), .unset, .unset, .unset, .unset, .unset, .unset, .unset, .unset, .unset]) dap9 rfl rfl rfl ?_
  refine aloadN (pc' := 11) dap10 rfl rfl rfl ?_
  have J1 : ∀ (hh : Heap) (x' w c1 uo ts lb : Int32) (tt : Addr), un x' % 2 = 1 → Keep h hh [u, tu, q, tq] → MB Z hh u tu 0 1 [x', w] → MB Z hh q tq 0 1 [1] → MB Z hh a180 tr 0 0 [0] → Wq l true Z [] a0 n0 (⟨"java/math/MutableBigInteger", "binaryGCD", "(Ljava/math/MutableBigInteger;)Ljava/math/MutableBigInteger;"⟩ : MethodName) jdk_2101_method_73_code 13 (some (.object "java/math/MutableBigInteger")) ({ frames := 3, cells := 2, slots := 4, locals := 60 } : Room) h (fun v h' => ∃ r tr : Addr, v = some (.ref r) ∧ Keep h h' [u, tu, q, tq] ∧ MB Z h' r tr 0 1 [1]) [tr, a180, u, tu, q, tq] hh 2 4 125 #[.val (.ref u), .val (.ref q), .val (.ref u), .val (.ref a180), .val (.int c1), .val (.int (0 : Int32)), .val (.int (0 : Int32)), .val (.int uo), .val (.ref tt), .val (.int ts), .val (.int lb), .unset, .unset] [] := by
    intro hh x' w c1 uo ts lb tt hx' K Hu Hq Hr
    obtain ⟨Eu, Vu, Ou, Lu, ku, Au⟩ := id Hu
    have Au : Arv Z hh tu ku .int (2 : Int32) [(.int x'), (.int w)] (.int (0 : Int32)) := Au
    obtain ⟨Eq, Vq, Oq, Lq, kq, Aq⟩ := id Hq
    have Aq : Arv Z hh tq kq .int (1 : Int32) [(.int (1 : Int32))] (.int (0 : Int32)) := Aq
    obtain ⟨Er, Vr, Ofr, Lr, kr, Ar⟩ := id Hr
    have Ar : Arv Z hh tr kr .int (1 : Int32) [(.int (0 : Int32))] (.int (0 : Int32)) := Ar
    refine aloadN (pc' := 126) dap125 rfl rfl rfl ?_
    refine getfield (i := 53) (pc' := 129) dap126 rfl Lu rfl ?_
    refine iconst (pc' := 130) (v := (2 : Int32)) dap129 rfl rfl ?_
    refine icmpF (pc' := 133) dap130 (by decide : (1 : Int32) < (2 : Int32)) rfl ?_
    refine aloadN (pc' := 134) dap133 rfl rfl rfl ?_
    refine getfield (i := 53) (pc' := 137) dap134 rfl Lq rfl ?_
    refine iconst (pc' := 138) (v := (2 : Int32)) dap137 rfl rfl ?_
    refine icmpF (pc' := 141) dap138 (by decide : (1 : Int32) < (2 : Int32)) rfl ?_
    refine aloadN (pc' := 142) dap141 rfl rfl rfl ?_
    refine getfield (i := 68) (pc' := 145) dap142 rfl Vu rfl ?_
    refine aloadN (pc' := 146) dap145 rfl rfl rfl ?_
    refine getfield (i := 49) (pc' := 149) dap146 rfl Ou rfl ?_
    refine iaload (v := (.int x')) (pc' := 150) dap149 Au ⟨by decide, by decide⟩ rfl rfl ?_
    refine istore (pc' := 152) (L' := #[.val (.ref u), .val (.ref q), .val (.ref u), .val (.ref a180), .val (.int c1), .val (.int (0 : Int32)), .val (.int (0 : Int32)), .val (.int uo), .val (.ref tt), .val (.int ts), .val (.int lb), .val (.int x'), .unset]) dap150 rfl rfl ?_
    refine aloadN (pc' := 153) dap152 rfl rfl rfl ?_
    refine getfield (i := 68) (pc' := 156) dap153 rfl Vq rfl ?_
    refine aloadN (pc' := 157) dap156 rfl rfl rfl ?_
    refine getfield (i := 49) (pc' := 160) dap157 rfl Oq rfl ?_
    refine iaload (v := (.int (1 : Int32))) (pc' := 161) dap160 Aq ⟨by decide, by decide⟩ rfl rfl ?_
    refine istore (pc' := 163) (L' := #[.val (.ref u), .val (.ref q), .val (.ref u), .val (.ref a180), .val (.int c1), .val (.int (0 : Int32)), .val (.int (0 : Int32)), .val (.int uo), .val (.ref tt), .val (.int ts), .val (.int lb), .val (.int x'), .val (.int (1 : Int32))]) dap161 rfl rfl ?_
    refine iload (pc' := 165) dap163 rfl rfl ?_
    refine iload (pc' := 167) dap165 rfl rfl ?_
    refine call (i := 105) (i2 := 43) (Wd := 0) (pc' := 170) (kStatic (i := 103) (i2 := 104) (i3 := 43) (i4 := 105) (argsL := [(.int x'), (.int (1 : Int32))]) (S' := []) (Wd := 0) dap167 rfl rfl rfl rfl (by decide) rfl pd_5 rfl rfl (Nat.le_of_ble_eq_true rfl)) (rm_bg l Z a0 hw hEL n0 x' _ hx') rfl rfl (by simp) (by decide) (by decide) (by decide) (by decide) rfl fun v_ h188 P189 sz190 => ?_
    obtain ⟨rfl, e191⟩ := P189
    rw [e191]
    refine at' (ce' := 2) (sl' := 4) (pc' := 170) (S' := [(.int (1 : Int32))]) rfl rfl rfl rfl rfl ?_
    refine istore (pc' := 172) (L' := #[.val (.ref u), .val (.ref q), .val (.ref u), .val (.ref a180), .val (.int c1), .val (.int (0 : Int32)), .val (.int (0 : Int32)), .val (.int uo), .val (.ref tt), .val (.int ts), .val (.int lb), .val (.int (1 : Int32)), .val (.int (1 : Int32))]) dap170 rfl rfl ?_
    refine aloadN (pc' := 173) dap172 rfl rfl rfl ?_
    refine getfield (i := 68) (pc' := 176) dap173 rfl Vr rfl ?_
    refine iconst (pc' := 177) (v := (0 : Int32)) dap176 rfl rfl ?_
    refine iload (pc' := 179) dap177 rfl rfl ?_
    refine iastore (pc' := 180) dap179 Ar ⟨by decide, by decide⟩ (by simp) (Nat.le_of_ble_eq_true rfl) rfl fun h192 W193 V194 => ?_
    replace K := K.wr W193 (Or.inr sz_tr)
    replace Eu := Eu.wr W193
    replace Vu := Vu.other W193 (Or.inl ne_u_tr)
    replace Ou := Ou.other W193 (Or.inl ne_u_tr)
    replace Lu := Lu.other W193 (Or.inl ne_u_tr)
    replace Au := Au.other W193 ne_tu_tr
    replace Eq := Eq.wr W193
    replace Vq := Vq.other W193 (Or.inl ne_q_tr)
    replace Oq := Oq.other W193 (Or.inl ne_q_tr)
    replace Lq := Lq.other W193 (Or.inl ne_q_tr)
    replace Aq := Aq.other W193 ne_tq_tr
    replace Er := Er.wr W193
    replace Vr := Vr.other W193 (Or.inl ne_a180_tr)
    replace Ofr := Ofr.other W193 (Or.inl ne_a180_tr)
    replace Lr := Lr.other W193 (Or.inl ne_a180_tr)
    replace Ar : Arv Z h192 tr kr .int (1 : Int32) [(.int (1 : Int32))] (.int (0 : Int32)) := V194
    refine aloadN (pc' := 181) dap180 rfl rfl rfl ?_
    refine iconst (pc' := 182) (v := (1 : Int32)) dap181 rfl rfl ?_
    refine putfield (i := 53) (i2 := 54) (i3 := 42) (pc' := 185) (v' := (.int (1 : Int32))) (ty := .int) dap182 rfl (Or.inl rfl) rfl Lr Er (by decide) rfl rfl (by simp) rfl fun h195 W196 => ?_
    replace K := K.wr W196 (Or.inr sz_a180)
    replace Eu := Eu.wr W196
    replace Vu := Vu.other W196 (Or.inl ne_u_a180)
    replace Ou := Ou.other W196 (Or.inl ne_u_a180)
    replace Lu := Lu.other W196 (Or.inl ne_u_a180)
    replace Au := Au.other W196 ne_tu_a180
    replace Eq := Eq.wr W196
    replace Vq := Vq.other W196 (Or.inl ne_q_a180)
    replace Oq := Oq.other W196 (Or.inl ne_q_a180)
    replace Lq := Lq.other W196 (Or.inl ne_q_a180)
    replace Aq := Aq.other W196 ne_tq_a180
    replace Er := Er.wr W196
    replace Vr := Vr.other W196 (Or.inr (slot_ne (Or.inl (hw _ (List.mem_of_getElem? (i := 69) rfl))) (Or.inl (hw _ (List.mem_of_getElem? (i := 54) rfl))) (by decide) (t := (.array .int)) (t' := .int) (by decide) (by decide)))
    replace Ofr := Ofr.other W196 (Or.inr (slot_ne (Or.inl (hw _ (List.mem_of_getElem? (i := 50) rfl))) (Or.inl (hw _ (List.mem_of_getElem? (i := 54) rfl))) (by decide) (t := .int) (t' := .int) (by decide) (by decide)))
    replace Lr := Lr.same W196
    replace Ar := Ar.other W196 (Ne.symm ne_a180_tr)
    refine aloadN (pc' := 186) dap185 rfl rfl rfl ?_
    refine iconst (pc' := 187) (v := (0 : Int32)) dap186 rfl rfl ?_
    refine putfield (i := 49) (i2 := 50) (i3 := 42) (pc' := 190) (v' := (.int (0 : Int32))) (ty := .int) dap187 rfl (Or.inl rfl) rfl Ofr Er (by decide) rfl rfl (by simp) rfl fun h197 W198 => ?_
    replace K := K.wr W198 (Or.inr sz_a180)
    replace Eu := Eu.wr W198
    replace Vu := Vu.other W198 (Or.inl ne_u_a180)
    replace Ou := Ou.other W198 (Or.inl ne_u_a180)
    replace Lu := Lu.other W198 (Or.inl ne_u_a180)
    replace Au := Au.other W198 ne_tu_a180
    replace Eq := Eq.wr W198
    replace Vq := Vq.other W198 (Or.inl ne_q_a180)
    replace Oq := Oq.other W198 (Or.inl ne_q_a180)
    replace Lq := Lq.other W198 (Or.inl ne_q_a180)
    replace Aq := Aq.other W198 ne_tq_a180
    replace Er := Er.wr W198
    replace Vr := Vr.other W198 (Or.inr (slot_ne (Or.inl (hw _ (List.mem_of_getElem? (i := 69) rfl))) (Or.inl (hw _ (List.mem_of_getElem? (i := 50) rfl))) (by decide) (t := (.array .int)) (t' := .int) (by decide) (by decide)))
    replace Ofr := Ofr.same W198
    replace Lr := Lr.other W198 (Or.inr (slot_ne (Or.inl (hw _ (List.mem_of_getElem? (i := 54) rfl))) (Or.inl (hw _ (List.mem_of_getElem? (i := 50) rfl))) (by decide) (t := .int) (t' := .int) (by decide) (by decide)))
    replace Ar := Ar.other W198 (Ne.symm ne_a180_tr)
    refine iload (pc' := 192) dap190 rfl rfl ?_
    refine ifT (pc' := 201) dap192 (by decide : ¬ ((0 : Int32) < (0 : Int32))) (by decide) rfl ?_
    refine aloadN (pc' := 202) dap201 rfl rfl rfl ?_
    exact retA dap202 rfl rfl rfl (by decide) (by decide) ⟨a180, tr, rfl, K, ⟨Er, Vr, Ofr, Lr, kr, Ar⟩⟩
  have J2 : ∀ (N : Nat) (hh : Heap) (x' y' c1 uo ts lb : Int32) (tt : Addr), un x' ≤ N → ¬ x' = 0 → un y' % 2 = 1 → Keep h hh [u, tu, q, tq] → MB Z hh u tu 0 2 [x', y'] → MB Z hh q tq 0 1 [1] → MB Z hh a180 tr 0 0 [0] → Wq l true Z [] a0 n0 (⟨"java/math/MutableBigInteger", "binaryGCD", "(Ljava/math/MutableBigInteger;)Ljava/math/MutableBigInteger;"⟩ : MethodName) jdk_2101_method_73_code 13 (some (.object "java/math/MutableBigInteger")) ({ frames := 3, cells := 2, slots := 4, locals := 60 } : Room) h (fun v h' => ∃ r tr : Addr, v = some (.ref r) ∧ Keep h h' [u, tu, q, tq] ∧ MB Z h' r tr 0 1 [1]) [tr, a180, u, tu, q, tq] hh 2 4 125 #[.val (.ref u), .val (.ref q), .val (.ref u), .val (.ref a180), .val (.int c1), .val (.int (0 : Int32)), .val (.int (0 : Int32)), .val (.int uo), .val (.ref tt), .val (.int ts), .val (.int lb), .unset, .unset] [] := by
    intro N
    induction N with
    | zero => intro hh x' y' c1 uo ts lb tt hN hx'; have := un_pos hx'; omega
    | succ N ih =>
      intro hh x' y' c1 uo ts lb tt hN hx' hy' K Hu Hq Hr
      obtain ⟨-, -, -, Lu, -⟩ := id Hu
      refine aloadN (pc' := 126) dap125 rfl rfl rfl ?_
      refine getfield (i := 53) (pc' := 129) dap126 rfl Lu rfl ?_
      refine iconst (pc' := 130) (v := (2 : Int32)) dap129 rfl rfl ?_
      refine icmpT (pc' := 203) dap130 (by decide : ¬ ((2 : Int32) < (2 : Int32))) (by decide) rfl ?_
      refine aloadN (pc' := 204) dap203 rfl rfl rfl ?_
      refine aloadN (pc' := 205) dap204 rfl rfl rfl ?_
      refine call (i := 248) (i2 := 43) (Wd := 0) (pc' := 208) (kPriv (i := 244) (i2 := 245) (i3 := 73) (i4 := 248) (i5 := 246) (a := u) (argsL := [(.ref q)]) (S' := []) (Wd := 0) dap205 rfl rfl rfl rfl rfl rfl (Hu.1) (by decide) rfl pd_4 rfl rfl (Nat.le_of_ble_eq_true rfl)) (rm_dif l Z a0 hw hEL n0 u tu q tq x' y' _ Hu Hq n1 n2 hx' (by omega)) rfl rfl (by simp) (by decide) (by decide) (by decide) (by decide) rfl fun v_ h199 P200 sz201 => ?_
      obtain ⟨rfl, Kd, y2, hy2, Hu⟩ := P200
      replace K := K.trans Kd (allS (Or.inl (by simp)) (allS (Or.inl (by simp)) all0))
      replace Hq := Hq.keep Kd (ninS (Ne.symm n1) (ninS ne_q_tu nin0)) (ninS (Ne.symm ne_u_tq) (ninS (Ne.symm n2) nin0))
      replace Hr := Hr.keep Kd (ninS (Ne.symm ne_u_a180) (ninS (Ne.symm ne_tu_a180) nin0)) (ninS (Ne.symm ne_u_tr) (ninS (Ne.symm ne_tu_tr) nin0))
      refine at' (ce' := 2) (sl' := 4) (pc' := 208) (S' := [(.int (1 : Int32))]) rfl rfl rfl rfl rfl ?_
      refine dup (pc' := 209) dap208 rfl rfl ?_
      refine istore (pc' := 211) (L' := #[.val (.ref u), .val (.ref q), .val (.ref u), .val (.ref a180), .val (.int c1), .val (.int (0 : Int32)), .val (.int (0 : Int32)), .val (.int uo), .val (.ref tt), .val (.int (1 : Int32)), .val (.int lb), .unset, .unset]) dap209 rfl rfl ?_
      refine ifT (pc' := 217) dap211 (by decide : ¬ ((1 : Int32) = (0 : Int32))) (by decide) rfl ?_
      refine iload (pc' := 219) dap217 rfl rfl ?_
      refine ifF (pc' := 222) dap219 (by decide : ¬ ((1 : Int32) < (0 : Int32))) rfl ?_
      refine aloadN (pc' := 223) dap222 rfl rfl rfl ?_
      refine goto (pc' := 227) dap223 (by decide) rfl ?_
      refine astore (pc' := 229) (L' := #[.val (.ref u), .val (.ref q), .val (.ref u), .val (.ref a180), .val (.int c1), .val (.int (0 : Int32)), .val (.int (0 : Int32)), .val (.int uo), .val (.ref u), .val (.int (1 : Int32)), .val (.int lb), .unset, .unset]) dap227 rfl rfl rfl ?_
      refine goto (pc' := 93) dap229 (by decide) rfl ?_
      refine aload (pc' := 95) dap93 rfl rfl rfl ?_
      refine call (i := 93) (i2 := 43) (Wd := 0) (pc' := 98) (kPriv (i := 89) (i2 := 90) (i3 := 73) (i4 := 93) (i5 := 91) (a := u) (argsL := []) (S' := []) (Wd := 0) dap95 rfl rfl rfl rfl rfl rfl (Hu.1) (by decide) rfl pd_6 rfl rfl (Nat.le_of_ble_eq_true rfl)) (rm_lsb2 l Z a0 hw hEL n0 u tu x' y2 _ Hu hx') rfl rfl (by simp) (by decide) (by decide) (by decide) (by decide) rfl fun v_ h202 P203 sz204 => ?_
      obtain ⟨lb2, rfl, hlb, e205⟩ := P203
      rw [e205]
      refine at' (ce' := 2) (sl' := 4) (pc' := 98) (S' := [(.int lb2)]) rfl rfl rfl rfl rfl ?_
      refine dup (pc' := 99) dap98 rfl rfl ?_
      refine istore (pc' := 101) (L' := #[.val (.ref u), .val (.ref q), .val (.ref u), .val (.ref a180), .val (.int c1), .val (.int (0 : Int32)), .val (.int (0 : Int32)), .val (.int uo), .val (.ref u), .val (.int (1 : Int32)), .val (.int lb2), .unset, .unset]) dap99 rfl rfl ?_
      refine ifF (pc' := 104) dap101 (hlb.nn : ¬ (lb2 < (0 : Int32))) rfl ?_
      refine aload (pc' := 106) dap104 rfl rfl rfl ?_
      refine iload (pc' := 108) dap106 rfl rfl ?_
      rcases hlb with ⟨rfl, z, hz, hl, rfl⟩ | ⟨hy0, hlb⟩
      · skip
        refine call (i := 102) (i2 := 43) (Wd := 0) (pc' := 111) (kVirt (i := 98) (i2 := 99) (i3 := 101) (i4 := 100) (C := "java/math/MutableBigInteger") (a := u) (argsL := [(.int (Int32.ofNat (32 + z)))]) (S' := []) (Wd := 0) dap108 rfl rfl rfl rfl (Hu.1) (by decide) rfl pd_3 rfl rfl (Nat.le_of_ble_eq_true rfl)) (rm_rs20 l Z a0 hw hEL n0 u tu x' z _ Hu hx' hz hl) rfl rfl (by simp) (by decide) (by decide) (by decide) (by decide) rfl fun v_ h206 P207 sz208 => ?_
        obtain ⟨rfl, Ks, x3, w3, hx3, Hu3⟩ := P207
        replace K := K.trans Ks (allS (Or.inl (by simp)) (allS (Or.inl (by simp)) all0))
        replace Hq := Hq.keep Ks (ninS (Ne.symm n1) (ninS ne_q_tu nin0)) (ninS (Ne.symm ne_u_tq) (ninS (Ne.symm n2) nin0))
        replace Hr := Hr.keep Ks (ninS (Ne.symm ne_u_a180) (ninS (Ne.symm ne_tu_a180) nin0)) (ninS (Ne.symm ne_u_tr) (ninS (Ne.symm ne_tu_tr) nin0))
        refine at' (ce' := 2) (sl' := 4) (pc' := 111) (S' := []) rfl rfl rfl rfl rfl ?_
        refine iload (pc' := 113) dap111 rfl rfl ?_
        refine ifF (pc' := 116) dap113 (by decide : (0 : Int32) < (1 : Int32)) rfl ?_
        refine aload (pc' := 118) dap116 rfl rfl rfl ?_
        refine astoreN (pc' := 119) (L' := #[.val (.ref u), .val (.ref q), .val (.ref u), .val (.ref a180), .val (.int c1), .val (.int (0 : Int32)), .val (.int (0 : Int32)), .val (.int uo), .val (.ref u), .val (.int (1 : Int32)), .val (.int (Int32.ofNat (32 + z))), .unset, .unset]) dap118 rfl rfl rfl ?_
        refine goto (pc' := 125) dap119 (by decide) rfl ?_
        exact J1 _ x3 w3 _ _ _ _ _ hx3 K Hu3 Hq Hr
      · skip
        obtain ⟨z, h1, hz, hl, rfl⟩ := hlb.pos (hlb.even (by omega))
        refine call (i := 102) (i2 := 43) (Wd := 0) (pc' := 111) (kVirt (i := 98) (i2 := 99) (i3 := 101) (i4 := 100) (C := "java/math/MutableBigInteger") (a := u) (argsL := [(.int (Int32.ofNat z))]) (S' := []) (Wd := 0) dap108 rfl rfl rfl rfl (Hu.1) (by decide) rfl pd_3 rfl rfl (Nat.le_of_ble_eq_true rfl)) (rm_rs2 l Z a0 hw hEL n0 u tu x' y2 z _ Hu hx' h1 hz hl) rfl rfl (by simp) (by decide) (by decide) (by decide) (by decide) rfl fun v_ h209 P210 sz211 => ?_
        obtain ⟨rfl, Ks, hcase⟩ := P210
        replace K := K.trans Ks (allS (Or.inl (by simp)) (allS (Or.inl (by simp)) all0))
        replace Hq := Hq.keep Ks (ninS (Ne.symm n1) (ninS ne_q_tu nin0)) (ninS (Ne.symm ne_u_tq) (ninS (Ne.symm n2) nin0))
        replace Hr := Hr.keep Ks (ninS (Ne.symm ne_u_a180) (ninS (Ne.symm ne_tu_a180) nin0)) (ninS (Ne.symm ne_u_tr) (ninS (Ne.symm ne_tu_tr) nin0))
        refine at' (ce' := 2) (sl' := 4) (pc' := 111) (S' := []) rfl rfl rfl rfl rfl ?_
        rcases hcase with ⟨x3, w3, hx3, Hu3⟩ | ⟨x3, y3, hx3, hlt, hy3, Hu3⟩
        · skip
          refine iload (pc' := 113) dap111 rfl rfl ?_
          refine ifF (pc' := 116) dap113 (by decide : (0 : Int32) < (1 : Int32)) rfl ?_
          refine aload (pc' := 118) dap116 rfl rfl rfl ?_
          refine astoreN (pc' := 119) (L' := #[.val (.ref u), .val (.ref q), .val (.ref u), .val (.ref a180), .val (.int c1), .val (.int (0 : Int32)), .val (.int (0 : Int32)), .val (.int uo), .val (.ref u), .val (.int (1 : Int32)), .val (.int (Int32.ofNat z)), .unset, .unset]) dap118 rfl rfl rfl ?_
          refine goto (pc' := 125) dap119 (by decide) rfl ?_
          exact J1 _ x3 w3 _ _ _ _ _ hx3 K Hu3 Hq Hr
        · skip
          refine iload (pc' := 113) dap111 rfl rfl ?_
          refine ifF (pc' := 116) dap113 (by decide : (0 : Int32) < (1 : Int32)) rfl ?_
          refine aload (pc' := 118) dap116 rfl rfl rfl ?_
          refine astoreN (pc' := 119) (L' := #[.val (.ref u), .val (.ref q), .val (.ref u), .val (.ref a180), .val (.int c1), .val (.int (0 : Int32)), .val (.int (0 : Int32)), .val (.int uo), .val (.ref u), .val (.int (1 : Int32)), .val (.int (Int32.ofNat z)), .unset, .unset]) dap118 rfl rfl rfl ?_
          refine goto (pc' := 125) dap119 (by decide) rfl ?_
          exact ih _ x3 y3 _ _ _ _ _ (by omega) hx3 hy3 K Hu3 Hq Hr
  refine call (i := 93) (i2 := 43) (Wd := 0) (pc' := 14) (kPriv (i := 89) (i2 := 90) (i3 := 73) (i4 := 93) (i5 := 91) (a := u) (argsL := []) (S' := []) (Wd := 0) dap11 rfl rfl rfl rfl rfl rfl (Hu.1) (by decide) rfl pd_6 rfl rfl (Nat.le_of_ble_eq_true rfl)) (rm_lsb2 l Z a0 hw hEL n0 u tu x y _ Hu hx) rfl rfl (by simp) (by decide) (by decide) (by decide) (by decide) rfl fun v_ h212 P213 sz214 => ?_
  obtain ⟨s1, rfl, hs1, e215⟩ := P213
  rw [e215]
  refine at' (ce' := 2) (sl' := 4) (pc' := 14) (S' := [(.int s1)]) rfl rfl rfl rfl rfl ?_
  refine istore (pc' := 16) (L' := #[.val (.ref u), .val (.ref q), .val (.ref u), .val (.ref a180), .val (.int s1), .unset, .unset, .unset, .unset, .unset, .unset, .unset, .unset]) dap14 rfl rfl ?_
  refine aloadN (pc' := 17) dap16 rfl rfl rfl ?_
  refine call (i := 93) (i2 := 43) (Wd := 0) (pc' := 20) (kPriv (i := 89) (i2 := 90) (i3 := 73) (i4 := 93) (i5 := 91) (a := q) (argsL := []) (S' := []) (Wd := 0) dap17 rfl rfl rfl rfl rfl rfl (Hq.1) (by decide) rfl pd_6 rfl rfl (Nat.le_of_ble_eq_true rfl)) (rm_lsb11 l Z a0 hw hEL n0 q tq 1 _ Hq (by decide)) rfl rfl (by simp) (by decide) (by decide) (by decide) (by decide) rfl fun v_ h216 P217 sz218 => ?_
  obtain ⟨s2, rfl, hs2, e219⟩ := P217
  rw [e219]
  obtain rfl : s2 = 0 := hs2.zero rfl
  refine at' (ce' := 2) (sl' := 4) (pc' := 20) (S' := [(.int (0 : Int32))]) rfl rfl rfl rfl rfl ?_
  refine istore (pc' := 22) (L' := #[.val (.ref u), .val (.ref q), .val (.ref u), .val (.ref a180), .val (.int s1), .val (.int (0 : Int32)), .unset, .unset, .unset, .unset, .unset, .unset, .unset]) dap20 rfl rfl ?_
  refine iload (pc' := 24) dap22 rfl rfl ?_
  refine iload (pc' := 26) dap24 rfl rfl ?_
  refine icmpT (pc' := 34) dap26 (hs1.nn : ¬ (s1 < (0 : Int32))) (by decide) rfl ?_
  refine iload (pc' := 36) dap34 rfl rfl ?_
  refine istore (pc' := 38) (L' := #[.val (.ref u), .val (.ref q), .val (.ref u), .val (.ref a180), .val (.int s1), .val (.int (0 : Int32)), .val (.int (0 : Int32)), .unset, .unset, .unset, .unset, .unset, .unset]) dap36 rfl rfl ?_
  refine iload (pc' := 40) dap38 rfl rfl ?_
  refine ifT (pc' := 55) dap40 (rfl : (0 : Int32) = (0 : Int32)) (by decide) rfl ?_
  refine iload (pc' := 57) dap55 rfl rfl ?_
  refine iload (pc' := 59) dap57 rfl rfl ?_
  refine icmp (pc' := 66) (pcF := 62) dap59 (by decide) rfl rfl (fun (q0 : ¬ ((0 : Int32) = s1)) => ?_) (fun (q0 : (0 : Int32) = s1) => ?_)
  · skip
    refine iconst (pc' := 67) (v := (0 : Int32)) dap66 rfl rfl ?_
    refine istore (pc' := 69) (L' := #[.val (.ref u), .val (.ref q), .val (.ref u), .val (.ref a180), .val (.int s1), .val (.int (0 : Int32)), .val (.int (0 : Int32)), .val (.int (0 : Int32)), .unset, .unset, .unset, .unset, .unset]) dap67 rfl rfl ?_
    refine iload (pc' := 71) dap69 rfl rfl ?_
    refine ifT (pc' := 78) dap71 (rfl : (0 : Int32) = (0 : Int32)) (by decide) rfl ?_
    refine aloadN (pc' := 79) dap78 rfl rfl rfl ?_
    refine astore (pc' := 81) (L' := #[.val (.ref u), .val (.ref q), .val (.ref u), .val (.ref a180), .val (.int s1), .val (.int (0 : Int32)), .val (.int (0 : Int32)), .val (.int (0 : Int32)), .val (.ref u), .unset, .unset, .unset, .unset]) dap79 rfl rfl rfl ?_
    refine iload (pc' := 83) dap81 rfl rfl ?_
    refine ifT (pc' := 90) dap83 (rfl : (0 : Int32) = (0 : Int32)) (by decide) rfl ?_
    refine iconst (pc' := 91) (v := (1 : Int32)) dap90 rfl rfl ?_
    refine istore (pc' := 93) (L' := #[.val (.ref u), .val (.ref q), .val (.ref u), .val (.ref a180), .val (.int s1), .val (.int (0 : Int32)), .val (.int (0 : Int32)), .val (.int (0 : Int32)), .val (.ref u), .val (.int (1 : Int32)), .unset, .unset, .unset]) dap91 rfl rfl ?_
    refine aload (pc' := 95) dap93 rfl rfl rfl ?_
    have hev : un y % 2 = 0 := own_ev fun q => q0 (hs1.zero q).symm
    refine call (i := 93) (i2 := 43) (Wd := 0) (pc' := 98) (kPriv (i := 89) (i2 := 90) (i3 := 73) (i4 := 93) (i5 := 91) (a := u) (argsL := []) (S' := []) (Wd := 0) dap95 rfl rfl rfl rfl rfl rfl (Hu.1) (by decide) rfl pd_6 rfl rfl (Nat.le_of_ble_eq_true rfl)) (rm_lsb2 l Z a0 hw hEL n0 u tu x y _ Hu hx) rfl rfl (by simp) (by decide) (by decide) (by decide) (by decide) rfl fun v_ h220 P221 sz222 => ?_
    obtain ⟨lb2, rfl, hlb, e223⟩ := P221
    rw [e223]
    refine at' (ce' := 2) (sl' := 4) (pc' := 98) (S' := [(.int lb2)]) rfl rfl rfl rfl rfl ?_
    refine dup (pc' := 99) dap98 rfl rfl ?_
    refine istore (pc' := 101) (L' := #[.val (.ref u), .val (.ref q), .val (.ref u), .val (.ref a180), .val (.int s1), .val (.int (0 : Int32)), .val (.int (0 : Int32)), .val (.int (0 : Int32)), .val (.ref u), .val (.int (1 : Int32)), .val (.int lb2), .unset, .unset]) dap99 rfl rfl ?_
    refine ifF (pc' := 104) dap101 (hlb.nn : ¬ (lb2 < (0 : Int32))) rfl ?_
    refine aload (pc' := 106) dap104 rfl rfl rfl ?_
    refine iload (pc' := 108) dap106 rfl rfl ?_
    rcases hlb with ⟨rfl, z, hz, hl, rfl⟩ | ⟨hy0, hlb⟩
    · skip
      refine call (i := 102) (i2 := 43) (Wd := 0) (pc' := 111) (kVirt (i := 98) (i2 := 99) (i3 := 101) (i4 := 100) (C := "java/math/MutableBigInteger") (a := u) (argsL := [(.int (Int32.ofNat (32 + z)))]) (S' := []) (Wd := 0) dap108 rfl rfl rfl rfl (Hu.1) (by decide) rfl pd_3 rfl rfl (Nat.le_of_ble_eq_true rfl)) (rm_rs20 l Z a0 hw hEL n0 u tu x z _ Hu hx hz hl) rfl rfl (by simp) (by decide) (by decide) (by decide) (by decide) rfl fun v_ h224 P225 sz226 => ?_
      obtain ⟨rfl, Ks, x3, w3, hx3, Hu3⟩ := P225
      replace K := K.trans Ks (allS (Or.inl (by simp)) (allS (Or.inl (by simp)) all0))
      replace Hq := Hq.keep Ks (ninS (Ne.symm n1) (ninS ne_q_tu nin0)) (ninS (Ne.symm ne_u_tq) (ninS (Ne.symm n2) nin0))
      replace Hr := Hr.keep Ks (ninS (Ne.symm ne_u_a180) (ninS (Ne.symm ne_tu_a180) nin0)) (ninS (Ne.symm ne_u_tr) (ninS (Ne.symm ne_tu_tr) nin0))
      refine at' (ce' := 2) (sl' := 4) (pc' := 111) (S' := []) rfl rfl rfl rfl rfl ?_
      refine iload (pc' := 113) dap111 rfl rfl ?_
      refine ifF (pc' := 116) dap113 (by decide : (0 : Int32) < (1 : Int32)) rfl ?_
      refine aload (pc' := 118) dap116 rfl rfl rfl ?_
      refine astoreN (pc' := 119) (L' := #[.val (.ref u), .val (.ref q), .val (.ref u), .val (.ref a180), .val (.int s1), .val (.int (0 : Int32)), .val (.int (0 : Int32)), .val (.int (0 : Int32)), .val (.ref u), .val (.int (1 : Int32)), .val (.int (Int32.ofNat (32 + z))), .unset, .unset]) dap118 rfl rfl rfl ?_
      refine goto (pc' := 125) dap119 (by decide) rfl ?_
      exact J1 _ x3 w3 _ _ _ _ _ hx3 K Hu3 Hq Hr
    · skip
      obtain ⟨z, h1, hz, hl, rfl⟩ := hlb.pos (hlb.even hev)
      refine call (i := 102) (i2 := 43) (Wd := 0) (pc' := 111) (kVirt (i := 98) (i2 := 99) (i3 := 101) (i4 := 100) (C := "java/math/MutableBigInteger") (a := u) (argsL := [(.int (Int32.ofNat z))]) (S' := []) (Wd := 0) dap108 rfl rfl rfl rfl (Hu.1) (by decide) rfl pd_3 rfl rfl (Nat.le_of_ble_eq_true rfl)) (rm_rs2 l Z a0 hw hEL n0 u tu x y z _ Hu hx h1 hz hl) rfl rfl (by simp) (by decide) (by decide) (by decide) (by decide) rfl fun v_ h227 P228 sz229 => ?_
      obtain ⟨rfl, Ks, hcase⟩ := P228
      replace K := K.trans Ks (allS (Or.inl (by simp)) (allS (Or.inl (by simp)) all0))
      replace Hq := Hq.keep Ks (ninS (Ne.symm n1) (ninS ne_q_tu nin0)) (ninS (Ne.symm ne_u_tq) (ninS (Ne.symm n2) nin0))
      replace Hr := Hr.keep Ks (ninS (Ne.symm ne_u_a180) (ninS (Ne.symm ne_tu_a180) nin0)) (ninS (Ne.symm ne_u_tr) (ninS (Ne.symm ne_tu_tr) nin0))
      refine at' (ce' := 2) (sl' := 4) (pc' := 111) (S' := []) rfl rfl rfl rfl rfl ?_
      rcases hcase with ⟨x3, w3, hx3, Hu3⟩ | ⟨x3, y3, hx3, hlt, hy3, Hu3⟩
      · skip
        refine iload (pc' := 113) dap111 rfl rfl ?_
        refine ifF (pc' := 116) dap113 (by decide : (0 : Int32) < (1 : Int32)) rfl ?_
        refine aload (pc' := 118) dap116 rfl rfl rfl ?_
        refine astoreN (pc' := 119) (L' := #[.val (.ref u), .val (.ref q), .val (.ref u), .val (.ref a180), .val (.int s1), .val (.int (0 : Int32)), .val (.int (0 : Int32)), .val (.int (0 : Int32)), .val (.ref u), .val (.int (1 : Int32)), .val (.int (Int32.ofNat z)), .unset, .unset]) dap118 rfl rfl rfl ?_
        refine goto (pc' := 125) dap119 (by decide) rfl ?_
        exact J1 _ x3 w3 _ _ _ _ _ hx3 K Hu3 Hq Hr
      · skip
        refine iload (pc' := 113) dap111 rfl rfl ?_
        refine ifF (pc' := 116) dap113 (by decide : (0 : Int32) < (1 : Int32)) rfl ?_
        refine aload (pc' := 118) dap116 rfl rfl rfl ?_
        refine astoreN (pc' := 119) (L' := #[.val (.ref u), .val (.ref q), .val (.ref u), .val (.ref a180), .val (.int s1), .val (.int (0 : Int32)), .val (.int (0 : Int32)), .val (.int (0 : Int32)), .val (.ref u), .val (.int (1 : Int32)), .val (.int (Int32.ofNat z)), .unset, .unset]) dap118 rfl rfl rfl ?_
        refine goto (pc' := 125) dap119 (by decide) rfl ?_
        exact J2 (un x3) _ x3 y3 _ _ _ _ _ (Nat.le_refl _) hx3 hy3 K Hu3 Hq Hr
  · skip
    subst q0
    refine at' (ce' := 2) (sl' := 4) (pc' := 62) (S' := []) rfl rfl rfl rfl rfl ?_
    refine iconst (pc' := 63) (v := (1 : Int32)) dap62 rfl rfl ?_
    refine goto (pc' := 67) dap63 (by decide) rfl ?_
    refine istore (pc' := 69) (L' := #[.val (.ref u), .val (.ref q), .val (.ref u), .val (.ref a180), .val (.int (0 : Int32)), .val (.int (0 : Int32)), .val (.int (0 : Int32)), .val (.int (1 : Int32)), .unset, .unset, .unset, .unset, .unset]) dap67 rfl rfl ?_
    refine iload (pc' := 71) dap69 rfl rfl ?_
    refine ifF (pc' := 74) dap71 (by decide : ¬ ((1 : Int32) = (0 : Int32))) rfl ?_
    refine aloadN (pc' := 75) dap74 rfl rfl rfl ?_
    refine goto (pc' := 79) dap75 (by decide) rfl ?_
    refine astore (pc' := 81) (L' := #[.val (.ref u), .val (.ref q), .val (.ref u), .val (.ref a180), .val (.int (0 : Int32)), .val (.int (0 : Int32)), .val (.int (0 : Int32)), .val (.int (1 : Int32)), .val (.ref q), .unset, .unset, .unset, .unset]) dap79 rfl rfl rfl ?_
    refine iload (pc' := 83) dap81 rfl rfl ?_
    refine ifF (pc' := 86) dap83 (by decide : ¬ ((1 : Int32) = (0 : Int32))) rfl ?_
    refine iconst (pc' := 87) (v := (-1 : Int32)) dap86 rfl rfl ?_
    refine goto (pc' := 91) dap87 (by decide) rfl ?_
    refine istore (pc' := 93) (L' := #[.val (.ref u), .val (.ref q), .val (.ref u), .val (.ref a180), .val (.int (0 : Int32)), .val (.int (0 : Int32)), .val (.int (0 : Int32)), .val (.int (1 : Int32)), .val (.ref q), .val (.int (-1 : Int32)), .unset, .unset, .unset]) dap91 rfl rfl ?_
    refine aload (pc' := 95) dap93 rfl rfl rfl ?_
    refine call (i := 93) (i2 := 43) (Wd := 0) (pc' := 98) (kPriv (i := 89) (i2 := 90) (i3 := 73) (i4 := 93) (i5 := 91) (a := q) (argsL := []) (S' := []) (Wd := 0) dap95 rfl rfl rfl rfl rfl rfl (Hq.1) (by decide) rfl pd_6 rfl rfl (Nat.le_of_ble_eq_true rfl)) (rm_lsb11 l Z a0 hw hEL n0 q tq 1 _ Hq (by decide)) rfl rfl (by simp) (by decide) (by decide) (by decide) (by decide) rfl fun v_ h230 P231 sz232 => ?_
    obtain ⟨lb2, rfl, hlb, e233⟩ := P231
    rw [e233]
    obtain rfl : lb2 = 0 := hlb.zero rfl
    refine at' (ce' := 2) (sl' := 4) (pc' := 98) (S' := [(.int (0 : Int32))]) rfl rfl rfl rfl rfl ?_
    refine dup (pc' := 99) dap98 rfl rfl ?_
    refine istore (pc' := 101) (L' := #[.val (.ref u), .val (.ref q), .val (.ref u), .val (.ref a180), .val (.int (0 : Int32)), .val (.int (0 : Int32)), .val (.int (0 : Int32)), .val (.int (1 : Int32)), .val (.ref q), .val (.int (-1 : Int32)), .val (.int (0 : Int32)), .unset, .unset]) dap99 rfl rfl ?_
    refine ifF (pc' := 104) dap101 (by decide : ¬ ((0 : Int32) < (0 : Int32))) rfl ?_
    refine aload (pc' := 106) dap104 rfl rfl rfl ?_
    refine iload (pc' := 108) dap106 rfl rfl ?_
    refine call (i := 102) (i2 := 43) (Wd := 0) (pc' := 111) (kVirt (i := 98) (i2 := 99) (i3 := 101) (i4 := 100) (C := "java/math/MutableBigInteger") (a := q) (argsL := [(.int (0 : Int32))]) (S' := []) (Wd := 0) dap108 rfl rfl rfl rfl (Hq.1) (by decide) rfl pd_3 rfl rfl (Nat.le_of_ble_eq_true rfl)) (rm_rs0 l Z a0 hw hEL n0 q tq 1 _ Hq) rfl rfl (by simp) (by decide) (by decide) (by decide) (by decide) rfl fun v_ h234 P235 sz236 => ?_
    obtain ⟨rfl, Ks, Hq3⟩ := P235
    replace K := K.trans Ks (allS (Or.inl (by simp)) (allS (Or.inl (by simp)) all0))
    replace Hu := Hu.keep Ks (ninS n1 (ninS ne_u_tq nin0)) (ninS (Ne.symm ne_q_tu) (ninS n2 nin0))
    replace Hr := Hr.keep Ks (ninS (Ne.symm ne_q_a180) (ninS (Ne.symm ne_tq_a180) nin0)) (ninS (Ne.symm ne_q_tr) (ninS (Ne.symm ne_tq_tr) nin0))
    refine at' (ce' := 2) (sl' := 4) (pc' := 111) (S' := []) rfl rfl rfl rfl rfl ?_
    refine iload (pc' := 113) dap111 rfl rfl ?_
    refine ifT (pc' := 122) dap113 (by decide : ¬ ((0 : Int32) < (-1 : Int32))) (by decide) rfl ?_
    refine aload (pc' := 124) dap122 rfl rfl rfl ?_
    refine astoreN (pc' := 125) (L' := #[.val (.ref u), .val (.ref q), .val (.ref u), .val (.ref a180), .val (.int (0 : Int32)), .val (.int (0 : Int32)), .val (.int (0 : Int32)), .val (.int (1 : Int32)), .val (.ref q), .val (.int (-1 : Int32)), .val (.int (0 : Int32)), .unset, .unset]) dap124 rfl rfl rfl ?_
    exact J2 (un x) _ x y _ _ _ _ _ (Nat.le_refl _) hx (hs1.odd rfl) K Hu Hq3 Hr
set_option maxRecDepth 65536 in
set_option maxHeartbeats 40000000 in
theorem rm_abs1 (l : Launch) (Z : State) (a0 : Array Value) (hw : ∀ d ∈ tables_1, d.before a0 Z = true) (hEL : EW Z a0 []) (n0 : Nat) (x : Int32) (h : Heap)  (hx : ¬ x < 0) :
    Met l true Z [] n0 (⟨"java/lang/Math", "abs", "(I)I"⟩ : MethodName) jdk_29_method_59_code 1 (some .int) ({ frames := 0, cells := 0, slots := 0, locals := 0 } : Room) [] #[(.int x)] [] h (fun v h' => v = some (.int x) ∧ h' = h) := by
  refine Met.of_body (a0 := a0) (L0 := #[.val (.int x)]) (Jvm.Free.JP.mathPlain rfl (by decide +kernel)) (fun m => by first | rfl | (simp [entryFrame, mkF, argsToLocals, Value.category]; done)) hw hEL (by decide) ?_
  refine iloadN (pc' := 1) daq0 rfl rfl ?_
  refine ifT (pc' := 9) daq1 (hx : ¬ (x < (0 : Int32))) (by decide) rfl ?_
  refine iloadN (pc' := 10) daq9 rfl rfl ?_
  exact retI daq10 rfl (Or.inl rfl) rfl (by decide) (by decide) ⟨rfl, rfl⟩
set_option maxRecDepth 65536 in
set_option maxHeartbeats 40000000 in
theorem rm_hy1 (l : Launch) (Z : State) (a0 : Array Value) (hw : ∀ d ∈ tables_1, d.before a0 Z = true) (hEL : EW Z a0 []) (n0 : Nat) (u tu q tq : Addr) (x : Int32) (h : Heap)  (Hu : MB Z h u tu 0 1 [x]) (Hq : MB Z h q tq 0 1 [1]) (n1 : u ≠ q) (n2 : tu ≠ tq) (hx : ¬ x = 0) :
    Met l true Z [] n0 (⟨"java/math/MutableBigInteger", "hybridGCD", "(Ljava/math/MutableBigInteger;)Ljava/math/MutableBigInteger;"⟩ : MethodName) jdk_2101_method_72_code 5 (some (.object "java/math/MutableBigInteger")) ({ frames := 4, cells := 4, slots := 8, locals := 100 } : Room) [] #[(.ref u), (.ref q)] [u, tu, q, tq] h (fun v h' => ∃ r tr : Addr, v = some (.ref r) ∧ Keep h h' [u, tu, q, tq] ∧ MB Z h' r tr 0 1 [1]) := by
  refine Met.of_body (a0 := a0) (L0 := #[.val (.ref u), .val (.ref q), .unset, .unset, .unset]) (plainFor_of_name (by first | (simp [plainName, overriddenIn]; done) | decide +kernel)) (fun m => by first | rfl | (simp [entryFrame, mkF, argsToLocals, Value.category]; done)) hw hEL (by decide) ?_
  have K : Keep h h [u, tu, q, tq] := Keep.refl _ _
  obtain ⟨Eu, Vu, Ou, Lu, ku, Au⟩ := id Hu
  have Au : Arv Z h tu ku .int (1 : Int32) [(.int x)] (.int (0 : Int32)) := Au
  have ne_u_tu : u ≠ tu := Eu.neArv Au (hw _ (List.mem_of_getElem? (i := 42) rfl))
  obtain ⟨Eq, Vq, Oq, Lq, kq, Aq⟩ := id Hq
  have Aq : Arv Z h tq kq .int (1 : Int32) [(.int (1 : Int32))] (.int (0 : Int32)) := Aq
  have ne_q_tq : q ≠ tq := Eq.neArv Aq (hw _ (List.mem_of_getElem? (i := 42) rfl))
  have ne_u_tq : u ≠ tq := Eu.neArv Aq (hw _ (List.mem_of_getElem? (i := 42) rfl))
  have ne_q_tu : q ≠ tu := Eq.neArv Au (hw _ (List.mem_of_getElem? (i := 42) rfl))
  refine aloadN (pc' := 1) dar0 rfl rfl rfl ?_
  refine astoreN (pc' := 2) (L' := #[.val (.ref u), .val (.ref q), .val (.ref u), .unset, .unset]) dar1 rfl rfl rfl ?_
  refine new (i := 75) (i2 := 42) (i3 := 43) (pc' := 5) dar2 rfl rfl rfl (by decide) (by decide) rfl fun h237 a238 g239 E240 A241 D242 => ?_
  have sz_a238 : h.size ≤ a238 := by rw [g239]; exact K.1
  have ne_u_a238 : u ≠ a238 := Nat.ne_of_lt (by rw [g239]; exact Hu.lt)
  have ne_tu_a238 : tu ≠ a238 := Nat.ne_of_lt (by rw [g239]; exact Hu.ltA)
  have ne_q_a238 : q ≠ a238 := Nat.ne_of_lt (by rw [g239]; exact Hq.lt)
  have ne_tq_a238 : tq ≠ a238 := Nat.ne_of_lt (by rw [g239]; exact Hq.ltA)
  replace K := K.ext E240
  replace Hu := Hu.ext E240
  replace Hq := Hq.ext E240
  have F_offset_a238 : Fld Z h237 a238 "java/math/MutableBigInteger" "offset" "I" (.int (0 : Int32)) := D242 (Or.inl (hw _ (List.mem_of_getElem? (i := 50) rfl))) (ty := .int) (by decide)
  have F_intLen_a238 : Fld Z h237 a238 "java/math/MutableBigInteger" "intLen" "I" (.int (0 : Int32)) := D242 (Or.inl (hw _ (List.mem_of_getElem? (i := 54) rfl))) (ty := .int) (by decide)
  have F_value_a238 : Fld Z h237 a238 "java/math/MutableBigInteger" "value" "[I" .null := D242 (Or.inl (hw _ (List.mem_of_getElem? (i := 69) rfl))) (ty := (.array .int)) (by decide)
  refine dup (pc' := 6) dar5 rfl rfl ?_
  have lt_r := A241.lt
  refine call (i := 78) (i2 := 43) (Wd := 1) (pc' := 9) (kInit (i := 76) (i2 := 77) (i4 := 78) (a := a238) (argsL := []) (S' := [(.ref a238)]) (Wd := 1) dar6 rfl rfl rfl rfl (by decide) rfl pd_0 rfl rfl (Nat.le_of_ble_eq_true rfl)) (rm_mb0 l Z a0 hw hEL n0 a238 _ A241 F_value_a238 F_offset_a238 F_intLen_a238) rfl rfl (by simp) (by decide) (by decide) (by decide) (by decide) rfl fun v_ h243 P244 sz245 => ?_
  obtain ⟨tr, rfl, Kr, htr, Hr⟩ := P244
  have sz_tr : h.size ≤ tr := Nat.le_trans K.1 htr
  have ne_u_tr : u ≠ tr := Nat.ne_of_lt (Nat.lt_of_lt_of_le Hu.lt htr)
  have ne_tu_tr : tu ≠ tr := Nat.ne_of_lt (Nat.lt_of_lt_of_le Hu.ltA htr)
  have ne_q_tr : q ≠ tr := Nat.ne_of_lt (Nat.lt_of_lt_of_le Hq.lt htr)
  have ne_tq_tr : tq ≠ tr := Nat.ne_of_lt (Nat.lt_of_lt_of_le Hq.ltA htr)
  have ne_a238_tr : a238 ≠ tr := Nat.ne_of_lt (Nat.lt_of_lt_of_le A241.lt htr)
  replace K := K.trans Kr (allS (Or.inr sz_a238) all0)
  replace Hu := Hu.keep Kr (ninS ne_u_a238 nin0) (ninS ne_tu_a238 nin0)
  replace Hq := Hq.keep Kr (ninS ne_q_a238 nin0) (ninS ne_tq_a238 nin0)
  refine at' (ce' := 2) (sl' := 4) (pc' := 9) (S' := [(.ref a238)]) rfl rfl rfl rfl rfl ?_
  obtain ⟨-, -, -, Lu, -⟩ := id Hu
  obtain ⟨-, -, -, Lq, -⟩ := id Hq
  refine astoreN (pc' := 10) (L' := #[.val (.ref u), .val (.ref q), .val (.ref u), .val (.ref a238), .unset]) dar9 rfl rfl rfl ?_
  refine aloadN (pc' := 11) dar10 rfl rfl rfl ?_
  refine getfield (i := 53) (pc' := 14) dar11 rfl Lq rfl ?_
  refine ifF (pc' := 17) dar14 (by decide : ¬ ((1 : Int32) = (0 : Int32))) rfl ?_
  refine aloadN (pc' := 18) dar17 rfl rfl rfl ?_
  refine getfield (i := 53) (pc' := 21) dar18 rfl Lu rfl ?_
  refine aloadN (pc' := 22) dar21 rfl rfl rfl ?_
  refine getfield (i := 53) (pc' := 25) dar22 rfl Lq rfl ?_
  refine isub (pc' := 26) dar25 rfl ?_
  rw [show ((1 : Int32) - (1 : Int32)) = (0 : Int32) from by decide]
  refine call (i := 83) (i2 := 82) (Wd := 0) (pc' := 29) (kStatic (i := 80) (i2 := 81) (i3 := 82) (i4 := 83) (argsL := [(.int (0 : Int32))]) (S' := []) (Wd := 0) dar26 rfl rfl rfl rfl (by decide) rfl pd_2 rfl rfl (Nat.le_of_ble_eq_true rfl)) (rm_abs1 l Z a0 hw hEL n0 (0 : Int32) _ (by decide)) rfl rfl (by simp) (by decide) (by decide) (by decide) (by decide) rfl fun v_ h246 P247 sz248 => ?_
  obtain ⟨rfl, e249⟩ := P247
  rw [e249]
  refine at' (ce' := 2) (sl' := 4) (pc' := 29) (S' := [(.int (0 : Int32))]) rfl rfl rfl rfl rfl ?_
  refine iconst (pc' := 30) (v := (2 : Int32)) dar29 rfl rfl ?_
  refine icmpF (pc' := 33) dar30 (by decide : (0 : Int32) < (2 : Int32)) rfl ?_
  refine aloadN (pc' := 34) dar33 rfl rfl rfl ?_
  refine aloadN (pc' := 35) dar34 rfl rfl rfl ?_
  refine call (i := 88) (i2 := 43) (Wd := 0) (pc' := 38) (kPriv (i := 84) (i2 := 85) (i3 := 73) (i4 := 88) (i5 := 86) (a := u) (argsL := [(.ref q)]) (S' := []) (Wd := 0) dar35 rfl rfl rfl rfl rfl rfl (Hu.1) (by decide) rfl pd_7 rfl rfl (Nat.le_of_ble_eq_true rfl)) (rm_bG1 l Z a0 hw hEL n0 u tu q tq x _ Hu Hq n1 n2 hx) rfl rfl (by simp) (by decide) (by decide) (by decide) (by decide) rfl fun v_ h250 P251 sz252 => ?_
  obtain ⟨r9, tr9, rfl, Kb, Hb⟩ := P251
  replace K := K.trans Kb (allS (Or.inl (by simp)) (allS (Or.inl (by simp)) (allS (Or.inl (by simp)) (allS (Or.inl (by simp)) all0))))
  refine at' (ce' := 4) (sl' := 8) (pc' := 38) (S' := [(.ref r9)]) rfl rfl rfl rfl rfl ?_
  exact retA dar38 rfl rfl rfl (by decide) (by decide) ⟨r9, tr9, rfl, K, Hb⟩
set_option maxRecDepth 65536 in
set_option maxHeartbeats 40000000 in
theorem rm_hy2 (l : Launch) (Z : State) (a0 : Array Value) (hw : ∀ d ∈ tables_1, d.before a0 Z = true) (hEL : EW Z a0 []) (n0 : Nat) (u tu q tq : Addr) (x y : Int32) (h : Heap)  (Hu : MB Z h u tu 0 2 [x, y]) (Hq : MB Z h q tq 0 1 [1]) (n1 : u ≠ q) (n2 : tu ≠ tq) (hx : ¬ x = 0) :
    Met l true Z [] n0 (⟨"java/math/MutableBigInteger", "hybridGCD", "(Ljava/math/MutableBigInteger;)Ljava/math/MutableBigInteger;"⟩ : MethodName) jdk_2101_method_72_code 5 (some (.object "java/math/MutableBigInteger")) ({ frames := 4, cells := 4, slots := 8, locals := 100 } : Room) [] #[(.ref u), (.ref q)] [u, tu, q, tq] h (fun v h' => ∃ r tr : Addr, v = some (.ref r) ∧ Keep h h' [u, tu, q, tq] ∧ MB Z h' r tr 0 1 [1]) := by
  refine Met.of_body (a0 := a0) (L0 := #[.val (.ref u), .val (.ref q), .unset, .unset, .unset]) (plainFor_of_name (by first | (simp [plainName, overriddenIn]; done) | decide +kernel)) (fun m => by first | rfl | (simp [entryFrame, mkF, argsToLocals, Value.category]; done)) hw hEL (by decide) ?_
  have K : Keep h h [u, tu, q, tq] := Keep.refl _ _
  obtain ⟨Eu, Vu, Ou, Lu, ku, Au⟩ := id Hu
  have Au : Arv Z h tu ku .int (2 : Int32) [(.int x), (.int y)] (.int (0 : Int32)) := Au
  have ne_u_tu : u ≠ tu := Eu.neArv Au (hw _ (List.mem_of_getElem? (i := 42) rfl))
  obtain ⟨Eq, Vq, Oq, Lq, kq, Aq⟩ := id Hq
  have Aq : Arv Z h tq kq .int (1 : Int32) [(.int (1 : Int32))] (.int (0 : Int32)) := Aq
  have ne_q_tq : q ≠ tq := Eq.neArv Aq (hw _ (List.mem_of_getElem? (i := 42) rfl))
  have ne_u_tq : u ≠ tq := Eu.neArv Aq (hw _ (List.mem_of_getElem? (i := 42) rfl))
  have ne_q_tu : q ≠ tu := Eq.neArv Au (hw _ (List.mem_of_getElem? (i := 42) rfl))
  refine aloadN (pc' := 1) dar0 rfl rfl rfl ?_
  refine astoreN (pc' := 2) (L' := #[.val (.ref u), .val (.ref q), .val (.ref u), .unset, .unset]) dar1 rfl rfl rfl ?_
  refine new (i := 75) (i2 := 42) (i3 := 43) (pc' := 5) dar2 rfl rfl rfl (by decide) (by decide) rfl fun h253 a254 g255 E256 A257 D258 => ?_
  have sz_a254 : h.size ≤ a254 := by rw [g255]; exact K.1
  have ne_u_a254 : u ≠ a254 := Nat.ne_of_lt (by rw [g255]; exact Hu.lt)
  have ne_tu_a254 : tu ≠ a254 := Nat.ne_of_lt (by rw [g255]; exact Hu.ltA)
  have ne_q_a254 : q ≠ a254 := Nat.ne_of_lt (by rw [g255]; exact Hq.lt)
  have ne_tq_a254 : tq ≠ a254 := Nat.ne_of_lt (by rw [g255]; exact Hq.ltA)
  replace K := K.ext E256
  replace Hu := Hu.ext E256
  replace Hq := Hq.ext E256
  have F_offset_a254 : Fld Z h253 a254 "java/math/MutableBigInteger" "offset" "I" (.int (0 : Int32)) := D258 (Or.inl (hw _ (List.mem_of_getElem? (i := 50) rfl))) (ty := .int) (by decide)
  have F_intLen_a254 : Fld Z h253 a254 "java/math/MutableBigInteger" "intLen" "I" (.int (0 : Int32)) := D258 (Or.inl (hw _ (List.mem_of_getElem? (i := 54) rfl))) (ty := .int) (by decide)
  have F_value_a254 : Fld Z h253 a254 "java/math/MutableBigInteger" "value" "[I" .null := D258 (Or.inl (hw _ (List.mem_of_getElem? (i := 69) rfl))) (ty := (.array .int)) (by decide)
  refine dup (pc' := 6) dar5 rfl rfl ?_
  have lt_r := A257.lt
  refine call (i := 78) (i2 := 43) (Wd := 1) (pc' := 9) (kInit (i := 76) (i2 := 77) (i4 := 78) (a := a254) (argsL := []) (S' := [(.ref a254)]) (Wd := 1) dar6 rfl rfl rfl rfl (by decide) rfl pd_0 rfl rfl (Nat.le_of_ble_eq_true rfl)) (rm_mb0 l Z a0 hw hEL n0 a254 _ A257 F_value_a254 F_offset_a254 F_intLen_a254) rfl rfl (by simp) (by decide) (by decide) (by decide) (by decide) rfl fun v_ h259 P260 sz261 => ?_
  obtain ⟨tr, rfl, Kr, htr, Hr⟩ := P260
  have sz_tr : h.size ≤ tr := Nat.le_trans K.1 htr
  have ne_u_tr : u ≠ tr := Nat.ne_of_lt (Nat.lt_of_lt_of_le Hu.lt htr)
  have ne_tu_tr : tu ≠ tr := Nat.ne_of_lt (Nat.lt_of_lt_of_le Hu.ltA htr)
  have ne_q_tr : q ≠ tr := Nat.ne_of_lt (Nat.lt_of_lt_of_le Hq.lt htr)
  have ne_tq_tr : tq ≠ tr := Nat.ne_of_lt (Nat.lt_of_lt_of_le Hq.ltA htr)
  have ne_a254_tr : a254 ≠ tr := Nat.ne_of_lt (Nat.lt_of_lt_of_le A257.lt htr)
  replace K := K.trans Kr (allS (Or.inr sz_a254) all0)
  replace Hu := Hu.keep Kr (ninS ne_u_a254 nin0) (ninS ne_tu_a254 nin0)
  replace Hq := Hq.keep Kr (ninS ne_q_a254 nin0) (ninS ne_tq_a254 nin0)
  refine at' (ce' := 2) (sl' := 4) (pc' := 9) (S' := [(.ref a254)]) rfl rfl rfl rfl rfl ?_
  obtain ⟨-, -, -, Lu, -⟩ := id Hu
  obtain ⟨-, -, -, Lq, -⟩ := id Hq
  refine astoreN (pc' := 10) (L' := #[.val (.ref u), .val (.ref q), .val (.ref u), .val (.ref a254), .unset]) dar9 rfl rfl rfl ?_
  refine aloadN (pc' := 11) dar10 rfl rfl rfl ?_
  refine getfield (i := 53) (pc' := 14) dar11 rfl Lq rfl ?_
  refine ifF (pc' := 17) dar14 (by decide : ¬ ((1 : Int32) = (0 : Int32))) rfl ?_
  refine aloadN (pc' := 18) dar17 rfl rfl rfl ?_
  refine getfield (i := 53) (pc' := 21) dar18 rfl Lu rfl ?_
  refine aloadN (pc' := 22) dar21 rfl rfl rfl ?_
  refine getfield (i := 53) (pc' := 25) dar22 rfl Lq rfl ?_
  refine isub (pc' := 26) dar25 rfl ?_
  rw [show ((2 : Int32) - (1 : Int32)) = (1 : Int32) from by decide]
  refine call (i := 83) (i2 := 82) (Wd := 0) (pc' := 29) (kStatic (i := 80) (i2 := 81) (i3 := 82) (i4 := 83) (argsL := [(.int (1 : Int32))]) (S' := []) (Wd := 0) dar26 rfl rfl rfl rfl (by decide) rfl pd_2 rfl rfl (Nat.le_of_ble_eq_true rfl)) (rm_abs1 l Z a0 hw hEL n0 (1 : Int32) _ (by decide)) rfl rfl (by simp) (by decide) (by decide) (by decide) (by decide) rfl fun v_ h262 P263 sz264 => ?_
  obtain ⟨rfl, e265⟩ := P263
  rw [e265]
  refine at' (ce' := 2) (sl' := 4) (pc' := 29) (S' := [(.int (1 : Int32))]) rfl rfl rfl rfl rfl ?_
  refine iconst (pc' := 30) (v := (2 : Int32)) dar29 rfl rfl ?_
  refine icmpF (pc' := 33) dar30 (by decide : (1 : Int32) < (2 : Int32)) rfl ?_
  refine aloadN (pc' := 34) dar33 rfl rfl rfl ?_
  refine aloadN (pc' := 35) dar34 rfl rfl rfl ?_
  refine call (i := 88) (i2 := 43) (Wd := 0) (pc' := 38) (kPriv (i := 84) (i2 := 85) (i3 := 73) (i4 := 88) (i5 := 86) (a := u) (argsL := [(.ref q)]) (S' := []) (Wd := 0) dar35 rfl rfl rfl rfl rfl rfl (Hu.1) (by decide) rfl pd_7 rfl rfl (Nat.le_of_ble_eq_true rfl)) (rm_bG2 l Z a0 hw hEL n0 u tu q tq x y _ Hu Hq n1 n2 hx) rfl rfl (by simp) (by decide) (by decide) (by decide) (by decide) rfl fun v_ h266 P267 sz268 => ?_
  obtain ⟨r9, tr9, rfl, Kb, Hb⟩ := P267
  replace K := K.trans Kb (allS (Or.inl (by simp)) (allS (Or.inl (by simp)) (allS (Or.inl (by simp)) (allS (Or.inl (by simp)) all0))))
  refine at' (ce' := 4) (sl' := 8) (pc' := 38) (S' := [(.ref r9)]) rfl rfl rfl rfl rfl ?_
  exact retA dar38 rfl rfl rfl (by decide) (by decide) ⟨r9, tr9, rfl, K, Hb⟩
set_option maxRecDepth 65536 in
set_option maxHeartbeats 40000000 in
theorem rm_gm1 (l : Launch) (Z : State) (a0 : Array Value) (hw : ∀ d ∈ tables_1, d.before a0 Z = true) (hEL : EW Z a0 []) (n0 : Nat) (m t : Addr) (x : Int32) (h : Heap)  (Hm : MB Z h m t 0 1 [x]) :
    Met l true Z [] n0 (⟨"java/math/MutableBigInteger", "getMagnitudeArray", "()[I"⟩ : MethodName) jdk_2101_method_7_code 2 (some (.array .int)) ({ frames := 0, cells := 0, slots := 0, locals := 0 } : Room) [] #[(.ref m)] [] h (fun v h' => v = some (.ref t) ∧ h' = h) := by
  refine Met.of_body (a0 := a0) (L0 := #[.val (.ref m), .unset]) (plainFor_of_name (by first | (simp [plainName, overriddenIn]; done) | decide +kernel)) (fun m => by first | rfl | (simp [entryFrame, mkF, argsToLocals, Value.category]; done)) hw hEL (by decide) ?_
  obtain ⟨Em, Vm, Om, Lm, km, Am⟩ := id Hm
  have Am : Arv Z h t km .int (1 : Int32) [(.int x)] (.int (0 : Int32)) := Am
  have ne_m_t : m ≠ t := Em.neArv Am (hw _ (List.mem_of_getElem? (i := 42) rfl))
  refine aloadN (pc' := 1) das0 rfl rfl rfl ?_
  refine getfield (i := 49) (pc' := 4) das1 rfl Om rfl ?_
  refine ifF (pc' := 7) das4 (by decide : ¬ ((0 : Int32) < (0 : Int32))) rfl ?_
  refine aloadN (pc' := 8) das7 rfl rfl rfl ?_
  refine getfield (i := 68) (pc' := 11) das8 rfl Vm rfl ?_
  refine arraylength (pc' := 12) das11 Am rfl ?_
  refine aloadN (pc' := 13) das12 rfl rfl rfl ?_
  refine getfield (i := 53) (pc' := 16) das13 rfl Lm rfl ?_
  refine icmpT (pc' := 64) das16 (rfl : (1 : Int32) = (1 : Int32)) (by decide) rfl ?_
  refine aloadN (pc' := 65) das64 rfl rfl rfl ?_
  refine getfield (i := 68) (pc' := 68) das65 rfl Vm rfl ?_
  exact retA das68 rfl rfl rfl (by decide) (by decide) ⟨rfl, rfl⟩
set_option maxRecDepth 65536 in
set_option maxHeartbeats 40000000 in
theorem rm_gm2 (l : Launch) (Z : State) (a0 : Array Value) (hw : ∀ d ∈ tables_1, d.before a0 Z = true) (hEL : EW Z a0 []) (n0 : Nat) (m t : Addr) (x y : Int32) (h : Heap)  (Hm : MB Z h m t 0 2 [x, y]) :
    Met l true Z [] n0 (⟨"java/math/MutableBigInteger", "getMagnitudeArray", "()[I"⟩ : MethodName) jdk_2101_method_7_code 2 (some (.array .int)) ({ frames := 0, cells := 0, slots := 0, locals := 0 } : Room) [] #[(.ref m)] [] h (fun v h' => v = some (.ref t) ∧ h' = h) := by
  refine Met.of_body (a0 := a0) (L0 := #[.val (.ref m), .unset]) (plainFor_of_name (by first | (simp [plainName, overriddenIn]; done) | decide +kernel)) (fun m => by first | rfl | (simp [entryFrame, mkF, argsToLocals, Value.category]; done)) hw hEL (by decide) ?_
  obtain ⟨Em, Vm, Om, Lm, km, Am⟩ := id Hm
  have Am : Arv Z h t km .int (2 : Int32) [(.int x), (.int y)] (.int (0 : Int32)) := Am
  have ne_m_t : m ≠ t := Em.neArv Am (hw _ (List.mem_of_getElem? (i := 42) rfl))
  refine aloadN (pc' := 1) das0 rfl rfl rfl ?_
  refine getfield (i := 49) (pc' := 4) das1 rfl Om rfl ?_
  refine ifF (pc' := 7) das4 (by decide : ¬ ((0 : Int32) < (0 : Int32))) rfl ?_
  refine aloadN (pc' := 8) das7 rfl rfl rfl ?_
  refine getfield (i := 68) (pc' := 11) das8 rfl Vm rfl ?_
  refine arraylength (pc' := 12) das11 Am rfl ?_
  refine aloadN (pc' := 13) das12 rfl rfl rfl ?_
  refine getfield (i := 53) (pc' := 16) das13 rfl Lm rfl ?_
  refine icmpT (pc' := 64) das16 (rfl : (2 : Int32) = (2 : Int32)) (by decide) rfl ?_
  refine aloadN (pc' := 65) das64 rfl rfl rfl ?_
  refine getfield (i := 68) (pc' := 68) das65 rfl Vm rfl ?_
  exact retA das68 rfl rfl rfl (by decide) (by decide) ⟨rfl, rfl⟩
set_option maxRecDepth 65536 in
set_option maxHeartbeats 40000000 in
theorem rm_tb1 (l : Launch) (Z : State) (a0 : Array Value) (hw : ∀ d ∈ tables_1, d.before a0 Z = true) (hEL : EW Z a0 []) (n0 : Nat) (m t : Addr) (s : Int32) (x : Int32) (h : Heap)  (Hm : MB Z h m t 0 1 [x]) (hs : ¬ s = 0) :
    Met l true Z [] n0 (⟨"java/math/MutableBigInteger", "toBigInteger", "(I)Ljava/math/BigInteger;"⟩ : MethodName) jdk_2101_method_9_code 2 (some (.object "java/math/BigInteger")) ({ frames := 3, cells := 1, slots := 6, locals := 50 } : Room) [] #[(.ref m), (.int s)] [] h (fun v h' => ∃ g : Addr, v = some (.ref g) ∧ Ext h h' ∧ BI Z h' g s [x]) := by
  refine Met.of_body (a0 := a0) (L0 := #[.val (.ref m), .val (.int s)]) (plainFor_of_name (by first | (simp [plainName, overriddenIn]; done) | decide +kernel)) (fun m => by first | rfl | (simp [entryFrame, mkF, argsToLocals, Value.category]; done)) hw hEL (by decide) ?_
  have K : Keep h h [] := Keep.refl _ _
  obtain ⟨-, -, -, Lm, -⟩ := id Hm
  refine aloadN (pc' := 1) dat0 rfl rfl rfl ?_
  refine getfield (i := 53) (pc' := 4) dat1 rfl Lm rfl ?_
  refine ifF (pc' := 7) dat4 (by decide : ¬ ((1 : Int32) = (0 : Int32))) rfl ?_
  refine iloadN (pc' := 8) dat7 rfl rfl ?_
  refine ifT (pc' := 15) dat8 (hs : ¬ (s = (0 : Int32))) (by decide) rfl ?_
  refine new (i := 113) (i2 := 114) (i3 := 8) (pc' := 18) dat15 rfl rfl rfl (by decide) (by decide) rfl fun h269 a270 g271 E272 A273 D274 => ?_
  have sz_a270 : h.size ≤ a270 := by rw [g271]; exact K.1
  have ne_m_a270 : m ≠ a270 := Nat.ne_of_lt (by rw [g271]; exact Hm.lt)
  have ne_t_a270 : t ≠ a270 := Nat.ne_of_lt (by rw [g271]; exact Hm.ltA)
  replace K := K.ext E272
  replace Hm := Hm.ext E272
  have F_signum_a270 : Fld Z h269 a270 "java/math/BigInteger" "signum" "I" (.int (0 : Int32)) := D274 (Or.inr (hw _ (List.mem_of_getElem? (i := 35) rfl))) (ty := .int) (by decide)
  have F_mag_a270 : Fld Z h269 a270 "java/math/BigInteger" "mag" "[I" .null := D274 (Or.inr (hw _ (List.mem_of_getElem? (i := 52) rfl))) (ty := (.array .int)) (by decide)
  refine dup (pc' := 19) dat18 rfl rfl ?_
  refine aloadN (pc' := 20) dat19 rfl rfl rfl ?_
  refine call (i := 119) (i2 := 43) (Wd := 2) (pc' := 23) (kPriv (i := 115) (i2 := 116) (i3 := 73) (i4 := 119) (i5 := 117) (a := m) (argsL := []) (S' := [(.ref a270), (.ref a270)]) (Wd := 2) dat20 rfl rfl rfl rfl rfl rfl (Hm.1) (by decide) rfl pd_8 rfl rfl (Nat.le_of_ble_eq_true rfl)) (rm_gm1 l Z a0 hw hEL n0 m t x _ Hm) rfl rfl (by simp) (by decide) (by decide) (by decide) (by decide) rfl fun v_ h275 P276 sz277 => ?_
  obtain ⟨rfl, e278⟩ := P276
  rw [e278]
  refine at' (ce' := 1) (sl' := 6) (pc' := 23) (S' := [(.ref t), (.ref a270), (.ref a270)]) rfl rfl rfl rfl rfl ?_
  refine iloadN (pc' := 24) dat23 rfl rfl ?_
  obtain ⟨-, -, -, -, kt, At⟩ := id Hm
  refine call (i := 123) (i2 := 8) (Wd := 1) (pc' := 27) (kInit (i := 120) (i2 := 121) (i4 := 123) (a := a270) (argsL := [(.ref t), (.int s)]) (S' := [(.ref a270)]) (Wd := 1) dat24 rfl rfl rfl rfl (by decide) rfl pd_9 rfl rfl (Nat.le_of_ble_eq_true rfl)) (rm_bia1 l Z a0 hw hEL n0 a270 t kt s x _ A273 F_signum_a270 F_mag_a270 At) rfl rfl (by simp) (by decide) (by decide) (by decide) (by decide) rfl fun v_ h279 P280 sz281 => ?_
  obtain ⟨rfl, K2, B2⟩ := P280
  replace K := K.trans K2 (allS (Or.inr sz_a270) all0)
  refine at' (ce' := 1) (sl' := 6) (pc' := 27) (S' := [(.ref a270)]) rfl rfl rfl rfl rfl ?_
  exact retA dat27 rfl rfl rfl (by decide) (by decide) ⟨a270, rfl, keepExt K, B2⟩
set_option maxRecDepth 65536 in
set_option maxHeartbeats 40000000 in
theorem rm_tb2 (l : Launch) (Z : State) (a0 : Array Value) (hw : ∀ d ∈ tables_1, d.before a0 Z = true) (hEL : EW Z a0 []) (n0 : Nat) (m t : Addr) (s : Int32) (x y : Int32) (h : Heap)  (Hm : MB Z h m t 0 2 [x, y]) (hs : ¬ s = 0) :
    Met l true Z [] n0 (⟨"java/math/MutableBigInteger", "toBigInteger", "(I)Ljava/math/BigInteger;"⟩ : MethodName) jdk_2101_method_9_code 2 (some (.object "java/math/BigInteger")) ({ frames := 3, cells := 1, slots := 6, locals := 50 } : Room) [] #[(.ref m), (.int s)] [] h (fun v h' => ∃ g : Addr, v = some (.ref g) ∧ Ext h h' ∧ BI Z h' g s [x, y]) := by
  refine Met.of_body (a0 := a0) (L0 := #[.val (.ref m), .val (.int s)]) (plainFor_of_name (by first | (simp [plainName, overriddenIn]; done) | decide +kernel)) (fun m => by first | rfl | (simp [entryFrame, mkF, argsToLocals, Value.category]; done)) hw hEL (by decide) ?_
  have K : Keep h h [] := Keep.refl _ _
  obtain ⟨-, -, -, Lm, -⟩ := id Hm
  refine aloadN (pc' := 1) dat0 rfl rfl rfl ?_
  refine getfield (i := 53) (pc' := 4) dat1 rfl Lm rfl ?_
  refine ifF (pc' := 7) dat4 (by decide : ¬ ((2 : Int32) = (0 : Int32))) rfl ?_
  refine iloadN (pc' := 8) dat7 rfl rfl ?_
  refine ifT (pc' := 15) dat8 (hs : ¬ (s = (0 : Int32))) (by decide) rfl ?_
  refine new (i := 113) (i2 := 114) (i3 := 8) (pc' := 18) dat15 rfl rfl rfl (by decide) (by decide) rfl fun h282 a283 g284 E285 A286 D287 => ?_
  have sz_a283 : h.size ≤ a283 := by rw [g284]; exact K.1
  have ne_m_a283 : m ≠ a283 := Nat.ne_of_lt (by rw [g284]; exact Hm.lt)
  have ne_t_a283 : t ≠ a283 := Nat.ne_of_lt (by rw [g284]; exact Hm.ltA)
  replace K := K.ext E285
  replace Hm := Hm.ext E285
  have F_signum_a283 : Fld Z h282 a283 "java/math/BigInteger" "signum" "I" (.int (0 : Int32)) := D287 (Or.inr (hw _ (List.mem_of_getElem? (i := 35) rfl))) (ty := .int) (by decide)
  have F_mag_a283 : Fld Z h282 a283 "java/math/BigInteger" "mag" "[I" .null := D287 (Or.inr (hw _ (List.mem_of_getElem? (i := 52) rfl))) (ty := (.array .int)) (by decide)
  refine dup (pc' := 19) dat18 rfl rfl ?_
  refine aloadN (pc' := 20) dat19 rfl rfl rfl ?_
  refine call (i := 119) (i2 := 43) (Wd := 2) (pc' := 23) (kPriv (i := 115) (i2 := 116) (i3 := 73) (i4 := 119) (i5 := 117) (a := m) (argsL := []) (S' := [(.ref a283), (.ref a283)]) (Wd := 2) dat20 rfl rfl rfl rfl rfl rfl (Hm.1) (by decide) rfl pd_8 rfl rfl (Nat.le_of_ble_eq_true rfl)) (rm_gm2 l Z a0 hw hEL n0 m t x y _ Hm) rfl rfl (by simp) (by decide) (by decide) (by decide) (by decide) rfl fun v_ h288 P289 sz290 => ?_
  obtain ⟨rfl, e291⟩ := P289
  rw [e291]
  refine at' (ce' := 1) (sl' := 6) (pc' := 23) (S' := [(.ref t), (.ref a283), (.ref a283)]) rfl rfl rfl rfl rfl ?_
  refine iloadN (pc' := 24) dat23 rfl rfl ?_
  obtain ⟨-, -, -, -, kt, At⟩ := id Hm
  refine call (i := 123) (i2 := 8) (Wd := 1) (pc' := 27) (kInit (i := 120) (i2 := 121) (i4 := 123) (a := a283) (argsL := [(.ref t), (.int s)]) (S' := [(.ref a283)]) (Wd := 1) dat24 rfl rfl rfl rfl (by decide) rfl pd_9 rfl rfl (Nat.le_of_ble_eq_true rfl)) (rm_bia2 l Z a0 hw hEL n0 a283 t kt s x y _ A286 F_signum_a283 F_mag_a283 At) rfl rfl (by simp) (by decide) (by decide) (by decide) (by decide) rfl fun v_ h292 P293 sz294 => ?_
  obtain ⟨rfl, K2, B2⟩ := P293
  replace K := K.trans K2 (allS (Or.inr sz_a283) all0)
  refine at' (ce' := 1) (sl' := 6) (pc' := 27) (S' := [(.ref a283)]) rfl rfl rfl rfl rfl ?_
  exact retA dat27 rfl rfl rfl (by decide) (by decide) ⟨a283, rfl, keepExt K, B2⟩
set_option maxRecDepth 65536 in
set_option maxHeartbeats 40000000 in
theorem rm_tb0 (l : Launch) (Z : State) (a0 : Array Value) (hw : ∀ d ∈ tables_1, d.before a0 Z = true) (hEL : EW Z a0 []) (n0 : Nat) (m t : Addr) (s : Int32) (h : Heap)  (hC : Caches Z) (Hm : MB Z h m t 0 0 [0]) :
    Met l true Z [] n0 (⟨"java/math/MutableBigInteger", "toBigInteger", "(I)Ljava/math/BigInteger;"⟩ : MethodName) jdk_2101_method_9_code 2 (some (.object "java/math/BigInteger")) ({ frames := 3, cells := 1, slots := 6, locals := 50 } : Room) [] #[(.ref m), (.int s)] [] h (fun v h' => ∃ g : Addr, v = some (.ref g) ∧ Ext h h' ∧ BI Z h' g 0 []) := by
  refine Met.of_body (a0 := a0) (L0 := #[.val (.ref m), .val (.int s)]) (plainFor_of_name (by first | (simp [plainName, overriddenIn]; done) | decide +kernel)) (fun m => by first | rfl | (simp [entryFrame, mkF, argsToLocals, Value.category]; done)) hw hEL (by decide) ?_
  obtain ⟨⟨z0, Sz, Bz⟩, -⟩ := hC
  obtain ⟨-, -, -, Lm, -⟩ := id Hm
  refine aloadN (pc' := 1) dat0 rfl rfl rfl ?_
  refine getfield (i := 53) (pc' := 4) dat1 rfl Lm rfl ?_
  refine ifT (pc' := 11) dat4 (rfl : (0 : Int32) = (0 : Int32)) (by decide) rfl ?_
  refine old fun O295 _ => ?_
  refine getstatic (i := 267) (v := (.ref z0)) (pc' := 14) dat11 rfl (Sz.ext O295.2) rfl ?_
  refine old fun O _ => ?_
  exact retA dat14 rfl rfl rfl (by decide) (by decide) ⟨z0, rfl, ⟨Nat.le_refl _, fun _ _ q => q⟩, (Bz.ext O.2).bi⟩
set_option maxRecDepth 65536 in
set_option maxHeartbeats 40000000 in
theorem rm_abs (l : Launch) (Z : State) (a0 : Array Value) (hw : ∀ d ∈ tables_1, d.before a0 Z = true) (hEL : EW Z a0 []) (n0 : Nat) (a : Addr) (h : Heap) (Sa : Fld Z h a "java/math/BigInteger" "signum" "I" (.int (1 : Int32)))  :
    Met l true Z [] n0 (⟨"java/math/BigInteger", "abs", "()Ljava/math/BigInteger;"⟩ : MethodName) jdk_2097_method_79_code 1 (some (.object "java/math/BigInteger")) ({ frames := 0, cells := 0, slots := 0, locals := 0 } : Room) [] #[(.ref a)] [] h (fun v h' => v = some (.ref a) ∧ h' = h) := by
  refine Met.of_body (a0 := a0) (L0 := #[.val (.ref a)]) (plainFor_of_name (by first | (simp [plainName, overriddenIn]; done) | decide +kernel)) (fun m => by first | rfl | (simp [entryFrame, mkF, argsToLocals, Value.category]; done)) hw hEL (by decide) ?_
  refine aloadN (pc' := 1) dau0 rfl rfl rfl ?_
  refine getfield (i := 34) (pc' := 4) dau1 rfl Sa rfl ?_
  refine ifF (pc' := 7) dau4 (by decide : ¬ ((1 : Int32) < (0 : Int32))) rfl ?_
  refine aloadN (pc' := 8) dau7 rfl rfl rfl ?_
  refine goto (pc' := 15) dau8 (by decide) rfl ?_
  exact retA dau15 rfl rfl rfl (by decide) (by decide) ⟨rfl, rfl⟩
set_option maxRecDepth 65536 in
set_option maxHeartbeats 40000000 in
theorem rm_gcd0 (l : Launch) (Z : State) (a0 : Array Value) (hw : ∀ d ∈ tables_1, d.before a0 Z = true) (hEL : EW Z a0 []) (n0 : Nat) (a b : Addr) (s : Int32) (h : Heap)  (Ha : BIc Z h a 0 []) (Hb : BIc Z h b 1 [1])  :
    Met l true Z [] n0 (⟨"java/math/BigInteger", "gcd", "(Ljava/math/BigInteger;)Ljava/math/BigInteger;"⟩ : MethodName) jdk_2097_method_73_code 5 (some (.object "java/math/BigInteger")) ({ frames := 5, cells := 9, slots := 24, locals := 130 } : Room) [] #[(.ref a), (.ref b)] [] h (fun v h' => ∃ g : Addr, v = some (.ref g) ∧ Ext h h' ∧ BI Z h' g 1 [1]) := by
  refine Met.of_body (a0 := a0) (L0 := #[.val (.ref a), .val (.ref b), .unset, .unset, .unset]) (plainFor_of_name (by first | (simp [plainName, overriddenIn]; done) | decide +kernel)) (fun m => by first | rfl | (simp [entryFrame, mkF, argsToLocals, Value.category]; done)) hw hEL (by decide) ?_
  have K : Keep h h [] := Keep.refl _ _
  obtain ⟨-, Sa, -⟩ := id Ha
  obtain ⟨-, Sb, -⟩ := id Hb
  refine aloadN (pc' := 1) dav0 rfl rfl rfl ?_
  refine getfield (i := 34) (pc' := 4) dav1 rfl Sb rfl ?_
  refine ifT (pc' := 12) dav4 (by decide : ¬ ((1 : Int32) = (0 : Int32))) (by decide) rfl ?_
  refine aloadN (pc' := 13) dav12 rfl rfl rfl ?_
  refine getfield (i := 34) (pc' := 16) dav13 rfl Sa rfl ?_
  refine ifF (pc' := 19) dav16 (rfl : (0 : Int32) = (0 : Int32)) rfl ?_
  refine aloadN (pc' := 20) dav19 rfl rfl rfl ?_
  refine call (i := 266) (i2 := 8) (Wd := 0) (pc' := 23) (kVirt (i := 262) (i2 := 263) (i3 := 265) (i4 := 264) (C := "java/math/BigInteger") (a := b) (argsL := []) (S' := []) (Wd := 0) dav20 rfl rfl rfl rfl (Hb.1) (by decide) rfl pd_10 rfl rfl (Nat.le_of_ble_eq_true rfl)) (rm_abs l Z a0 hw hEL n0 b _ Sb) rfl rfl (by simp) (by decide) (by decide) (by decide) (by decide) rfl fun v_ h296 P297 sz298 => ?_
  obtain ⟨rfl, e299⟩ := P297
  rw [e299]
  refine at' (ce' := 0) (sl' := 0) (pc' := 23) (S' := [(.ref b)]) rfl rfl rfl rfl rfl ?_
  exact retA dav23 rfl rfl rfl (by decide) (by decide) ⟨b, rfl, ⟨Nat.le_refl _, fun _ _ q => q⟩, Hb.bi⟩
set_option maxRecDepth 65536 in
set_option maxHeartbeats 40000000 in
theorem rm_gcd1 (l : Launch) (Z : State) (a0 : Array Value) (hw : ∀ d ∈ tables_1, d.before a0 Z = true) (hEL : EW Z a0 []) (n0 : Nat) (a b : Addr) (s : Int32) (x : Int32) (h : Heap)  (Ha : BIc Z h a s [x]) (Hb : BIc Z h b 1 [1]) (hs : ¬ s = 0) (hx : ¬ x = 0) :
    Met l true Z [] n0 (⟨"java/math/BigInteger", "gcd", "(Ljava/math/BigInteger;)Ljava/math/BigInteger;"⟩ : MethodName) jdk_2097_method_73_code 5 (some (.object "java/math/BigInteger")) ({ frames := 5, cells := 9, slots := 24, locals := 130 } : Room) [] #[(.ref a), (.ref b)] [] h (fun v h' => ∃ g : Addr, v = some (.ref g) ∧ Ext h h' ∧ BI Z h' g 1 [1]) := by
  refine Met.of_body (a0 := a0) (L0 := #[.val (.ref a), .val (.ref b), .unset, .unset, .unset]) (plainFor_of_name (by first | (simp [plainName, overriddenIn]; done) | decide +kernel)) (fun m => by first | rfl | (simp [entryFrame, mkF, argsToLocals, Value.category]; done)) hw hEL (by decide) ?_
  have K : Keep h h [] := Keep.refl _ _
  obtain ⟨-, Sa, -⟩ := id Ha
  obtain ⟨-, Sb, -⟩ := id Hb
  refine aloadN (pc' := 1) dav0 rfl rfl rfl ?_
  refine getfield (i := 34) (pc' := 4) dav1 rfl Sb rfl ?_
  refine ifT (pc' := 12) dav4 (by decide : ¬ ((1 : Int32) = (0 : Int32))) (by decide) rfl ?_
  refine aloadN (pc' := 13) dav12 rfl rfl rfl ?_
  refine getfield (i := 34) (pc' := 16) dav13 rfl Sa rfl ?_
  refine ifT (pc' := 24) dav16 (hs : ¬ (s = (0 : Int32))) (by decide) rfl ?_
  refine new (i := 41) (i2 := 42) (i3 := 43) (pc' := 27) dav24 rfl rfl rfl (by decide) (by decide) rfl fun h300 a301 g302 E303 A304 D305 => ?_
  have sz_a301 : h.size ≤ a301 := by rw [g302]; exact K.1
  replace K := K.ext E303
  have F_offset_a301 : Fld Z h300 a301 "java/math/MutableBigInteger" "offset" "I" (.int (0 : Int32)) := D305 (Or.inl (hw _ (List.mem_of_getElem? (i := 50) rfl))) (ty := .int) (by decide)
  have F_intLen_a301 : Fld Z h300 a301 "java/math/MutableBigInteger" "intLen" "I" (.int (0 : Int32)) := D305 (Or.inl (hw _ (List.mem_of_getElem? (i := 54) rfl))) (ty := .int) (by decide)
  have F_value_a301 : Fld Z h300 a301 "java/math/MutableBigInteger" "value" "[I" .null := D305 (Or.inl (hw _ (List.mem_of_getElem? (i := 69) rfl))) (ty := (.array .int)) (by decide)
  refine dup (pc' := 28) dav27 rfl rfl ?_
  refine aloadN (pc' := 29) dav28 rfl rfl rfl ?_
  have lt_m1 := A304.lt
  refine call (i := 47) (i2 := 43) (Wd := 1) (pc' := 32) (kInit (i := 44) (i2 := 45) (i4 := 47) (a := a301) (argsL := [(.ref a)]) (S' := [(.ref a301)]) (Wd := 1) dav29 rfl rfl rfl rfl (by decide) rfl pd_11 rfl rfl (Nat.le_of_ble_eq_true rfl)) (rm_mbB1 l Z a0 hw hEL n0 a301 a s x _ A304 F_value_a301 F_offset_a301 F_intLen_a301 (Ha.ext (keepExt K))) rfl rfl (by simp) (by decide) (by decide) (by decide) (by decide) rfl fun v_ h306 P307 sz308 => ?_
  obtain ⟨t1, rfl, K1, ht1, H1⟩ := P307
  have sz_t1 : h.size ≤ t1 := Nat.le_trans K.1 ht1
  have ne_a301_t1 : a301 ≠ t1 := Nat.ne_of_lt (Nat.lt_of_lt_of_le A304.lt ht1)
  replace K := K.trans K1 (allS (Or.inr sz_a301) all0)
  refine fsz fun Fz => ?_
  have nb_m1 : n0 ≤ t1 := Nat.le_trans (Fz a301 (by simp)).1 (Nat.le_trans (Nat.le_of_lt lt_m1) ht1)
  refine adopt rfl nb_m1 H1.ltA ?_
  refine at' (ce' := 2) (sl' := 5) (pc' := 32) (S' := [(.ref a301)]) rfl rfl rfl rfl rfl ?_
  refine astoreN (pc' := 33) (L' := #[.val (.ref a), .val (.ref b), .val (.ref a301), .unset, .unset]) dav32 rfl rfl rfl ?_
  refine new (i := 41) (i2 := 42) (i3 := 43) (pc' := 36) dav33 rfl rfl rfl (by decide) (by decide) rfl fun h309 a310 g311 E312 A313 D314 => ?_
  have sz_a310 : h.size ≤ a310 := by rw [g311]; exact K.1
  have ne_a301_a310 : a301 ≠ a310 := Nat.ne_of_lt (by rw [g311]; exact H1.lt)
  have ne_t1_a310 : t1 ≠ a310 := Nat.ne_of_lt (by rw [g311]; exact H1.ltA)
  replace K := K.ext E312
  replace H1 := H1.ext E312
  have F_offset_a310 : Fld Z h309 a310 "java/math/MutableBigInteger" "offset" "I" (.int (0 : Int32)) := D314 (Or.inl (hw _ (List.mem_of_getElem? (i := 50) rfl))) (ty := .int) (by decide)
  have F_intLen_a310 : Fld Z h309 a310 "java/math/MutableBigInteger" "intLen" "I" (.int (0 : Int32)) := D314 (Or.inl (hw _ (List.mem_of_getElem? (i := 54) rfl))) (ty := .int) (by decide)
  have F_value_a310 : Fld Z h309 a310 "java/math/MutableBigInteger" "value" "[I" .null := D314 (Or.inl (hw _ (List.mem_of_getElem? (i := 69) rfl))) (ty := (.array .int)) (by decide)
  refine dup (pc' := 37) dav36 rfl rfl ?_
  refine aloadN (pc' := 38) dav37 rfl rfl rfl ?_
  have lt_m2 := A313.lt
  refine call (i := 47) (i2 := 43) (Wd := 1) (pc' := 41) (kInit (i := 44) (i2 := 45) (i4 := 47) (a := a310) (argsL := [(.ref b)]) (S' := [(.ref a310)]) (Wd := 1) dav38 rfl rfl rfl rfl (by decide) rfl pd_11 rfl rfl (Nat.le_of_ble_eq_true rfl)) (rm_mbB1 l Z a0 hw hEL n0 a310 b 1 1 _ A313 F_value_a310 F_offset_a310 F_intLen_a310 (Hb.ext (keepExt K))) rfl rfl (by simp) (by decide) (by decide) (by decide) (by decide) rfl fun v_ h315 P316 sz317 => ?_
  obtain ⟨t2, rfl, K2, ht2, H2⟩ := P316
  have sz_t2 : h.size ≤ t2 := Nat.le_trans K.1 ht2
  have ne_a301_t2 : a301 ≠ t2 := Nat.ne_of_lt (Nat.lt_of_lt_of_le H1.lt ht2)
  have ne_t1_t2 : t1 ≠ t2 := Nat.ne_of_lt (Nat.lt_of_lt_of_le H1.ltA ht2)
  have ne_a310_t2 : a310 ≠ t2 := Nat.ne_of_lt (Nat.lt_of_lt_of_le A313.lt ht2)
  replace K := K.trans K2 (allS (Or.inr sz_a310) all0)
  replace H1 := H1.keep K2 (ninS ne_a301_a310 nin0) (ninS ne_t1_a310 nin0)
  refine fsz fun Fz => ?_
  have nb_m2 : n0 ≤ t2 := Nat.le_trans (Fz a310 (by simp)).1 (Nat.le_trans (Nat.le_of_lt lt_m2) ht2)
  refine adopt rfl nb_m2 H2.ltA ?_
  refine at' (ce' := 4) (sl' := 10) (pc' := 41) (S' := [(.ref a310)]) rfl rfl rfl rfl rfl ?_
  refine astoreN (pc' := 42) (L' := #[.val (.ref a), .val (.ref b), .val (.ref a301), .val (.ref a310), .unset]) dav41 rfl rfl rfl ?_
  refine aloadN (pc' := 43) dav42 rfl rfl rfl ?_
  refine aloadN (pc' := 44) dav43 rfl rfl rfl ?_
  refine call (i := 74) (i2 := 43) (Wd := 0) (pc' := 47) (kVirt (i := 70) (i2 := 71) (i3 := 73) (i4 := 72) (C := "java/math/MutableBigInteger") (a := a301) (argsL := [(.ref a310)]) (S' := []) (Wd := 0) dav44 rfl rfl rfl rfl (H1.1) (by decide) rfl pd_7 rfl rfl (Nat.le_of_ble_eq_true rfl)) (rm_hy1 l Z a0 hw hEL n0 a301 t1 a310 t2 x _ H1 H2 ne_a301_a310 ne_t1_t2 hx) rfl rfl (by simp) (by decide) (by decide) (by decide) (by decide) rfl fun v_ h318 P319 sz320 => ?_
  obtain ⟨r9, t9, rfl, K9, H9⟩ := P319
  replace K := K.trans K9 (allS (Or.inr sz_a301) (allS (Or.inr sz_t1) (allS (Or.inr sz_a310) (allS (Or.inr sz_t2) all0))))
  refine at' (ce' := 8) (sl' := 18) (pc' := 47) (S' := [(.ref r9)]) rfl rfl rfl rfl rfl ?_
  refine astore (pc' := 49) (L' := #[.val (.ref a), .val (.ref b), .val (.ref a301), .val (.ref a310), .val (.ref r9)]) dav47 rfl rfl rfl ?_
  refine aload (pc' := 51) dav49 rfl rfl rfl ?_
  refine iconst (pc' := 52) (v := (1 : Int32)) dav51 rfl rfl ?_
  refine call (i := 112) (i2 := 43) (Wd := 0) (pc' := 55) (kVirt (i := 108) (i2 := 109) (i3 := 111) (i4 := 110) (C := "java/math/MutableBigInteger") (a := r9) (argsL := [(.int (1 : Int32))]) (S' := []) (Wd := 0) dav52 rfl rfl rfl rfl (H9.1) (by decide) rfl pd_12 rfl rfl (Nat.le_of_ble_eq_true rfl)) (rm_tb1 l Z a0 hw hEL n0 r9 t9 1 1 _ H9 (by decide)) rfl rfl (by simp) (by decide) (by decide) (by decide) (by decide) rfl fun v_ h321 P322 sz323 => ?_
  obtain ⟨g, rfl, X9, B9⟩ := P322
  replace K := K.ext X9
  refine at' (ce' := 9) (sl' := 24) (pc' := 55) (S' := [(.ref g)]) rfl rfl rfl rfl rfl ?_
  exact retA dav55 rfl rfl rfl (by decide) (by decide) ⟨g, rfl, keepExt K, B9⟩
set_option maxRecDepth 65536 in
set_option maxHeartbeats 40000000 in
theorem rm_gcd2 (l : Launch) (Z : State) (a0 : Array Value) (hw : ∀ d ∈ tables_1, d.before a0 Z = true) (hEL : EW Z a0 []) (n0 : Nat) (a b : Addr) (s : Int32) (x y : Int32) (h : Heap)  (Ha : BIc Z h a s [x, y]) (Hb : BIc Z h b 1 [1]) (hs : ¬ s = 0) (hx : ¬ x = 0) :
    Met l true Z [] n0 (⟨"java/math/BigInteger", "gcd", "(Ljava/math/BigInteger;)Ljava/math/BigInteger;"⟩ : MethodName) jdk_2097_method_73_code 5 (some (.object "java/math/BigInteger")) ({ frames := 5, cells := 9, slots := 24, locals := 130 } : Room) [] #[(.ref a), (.ref b)] [] h (fun v h' => ∃ g : Addr, v = some (.ref g) ∧ Ext h h' ∧ BI Z h' g 1 [1]) := by
  refine Met.of_body (a0 := a0) (L0 := #[.val (.ref a), .val (.ref b), .unset, .unset, .unset]) (plainFor_of_name (by first | (simp [plainName, overriddenIn]; done) | decide +kernel)) (fun m => by first | rfl | (simp [entryFrame, mkF, argsToLocals, Value.category]; done)) hw hEL (by decide) ?_
  have K : Keep h h [] := Keep.refl _ _
  obtain ⟨-, Sa, -⟩ := id Ha
  obtain ⟨-, Sb, -⟩ := id Hb
  refine aloadN (pc' := 1) dav0 rfl rfl rfl ?_
  refine getfield (i := 34) (pc' := 4) dav1 rfl Sb rfl ?_
  refine ifT (pc' := 12) dav4 (by decide : ¬ ((1 : Int32) = (0 : Int32))) (by decide) rfl ?_
  refine aloadN (pc' := 13) dav12 rfl rfl rfl ?_
  refine getfield (i := 34) (pc' := 16) dav13 rfl Sa rfl ?_
  refine ifT (pc' := 24) dav16 (hs : ¬ (s = (0 : Int32))) (by decide) rfl ?_
  refine new (i := 41) (i2 := 42) (i3 := 43) (pc' := 27) dav24 rfl rfl rfl (by decide) (by decide) rfl fun h324 a325 g326 E327 A328 D329 => ?_
  have sz_a325 : h.size ≤ a325 := by rw [g326]; exact K.1
  replace K := K.ext E327
  have F_offset_a325 : Fld Z h324 a325 "java/math/MutableBigInteger" "offset" "I" (.int (0 : Int32)) := D329 (Or.inl (hw _ (List.mem_of_getElem? (i := 50) rfl))) (ty := .int) (by decide)
  have F_intLen_a325 : Fld Z h324 a325 "java/math/MutableBigInteger" "intLen" "I" (.int (0 : Int32)) := D329 (Or.inl (hw _ (List.mem_of_getElem? (i := 54) rfl))) (ty := .int) (by decide)
  have F_value_a325 : Fld Z h324 a325 "java/math/MutableBigInteger" "value" "[I" .null := D329 (Or.inl (hw _ (List.mem_of_getElem? (i := 69) rfl))) (ty := (.array .int)) (by decide)
  refine dup (pc' := 28) dav27 rfl rfl ?_
  refine aloadN (pc' := 29) dav28 rfl rfl rfl ?_
  have lt_m1 := A328.lt
  refine call (i := 47) (i2 := 43) (Wd := 1) (pc' := 32) (kInit (i := 44) (i2 := 45) (i4 := 47) (a := a325) (argsL := [(.ref a)]) (S' := [(.ref a325)]) (Wd := 1) dav29 rfl rfl rfl rfl (by decide) rfl pd_11 rfl rfl (Nat.le_of_ble_eq_true rfl)) (rm_mbB2 l Z a0 hw hEL n0 a325 a s x y _ A328 F_value_a325 F_offset_a325 F_intLen_a325 (Ha.ext (keepExt K))) rfl rfl (by simp) (by decide) (by decide) (by decide) (by decide) rfl fun v_ h330 P331 sz332 => ?_
  obtain ⟨t1, rfl, K1, ht1, H1⟩ := P331
  have sz_t1 : h.size ≤ t1 := Nat.le_trans K.1 ht1
  have ne_a325_t1 : a325 ≠ t1 := Nat.ne_of_lt (Nat.lt_of_lt_of_le A328.lt ht1)
  replace K := K.trans K1 (allS (Or.inr sz_a325) all0)
  refine fsz fun Fz => ?_
  have nb_m1 : n0 ≤ t1 := Nat.le_trans (Fz a325 (by simp)).1 (Nat.le_trans (Nat.le_of_lt lt_m1) ht1)
  refine adopt rfl nb_m1 H1.ltA ?_
  refine at' (ce' := 2) (sl' := 5) (pc' := 32) (S' := [(.ref a325)]) rfl rfl rfl rfl rfl ?_
  refine astoreN (pc' := 33) (L' := #[.val (.ref a), .val (.ref b), .val (.ref a325), .unset, .unset]) dav32 rfl rfl rfl ?_
  refine new (i := 41) (i2 := 42) (i3 := 43) (pc' := 36) dav33 rfl rfl rfl (by decide) (by decide) rfl fun h333 a334 g335 E336 A337 D338 => ?_
  have sz_a334 : h.size ≤ a334 := by rw [g335]; exact K.1
  have ne_a325_a334 : a325 ≠ a334 := Nat.ne_of_lt (by rw [g335]; exact H1.lt)
  have ne_t1_a334 : t1 ≠ a334 := Nat.ne_of_lt (by rw [g335]; exact H1.ltA)
  replace K := K.ext E336
  replace H1 := H1.ext E336
  have F_offset_a334 : Fld Z h333 a334 "java/math/MutableBigInteger" "offset" "I" (.int (0 : Int32)) := D338 (Or.inl (hw _ (List.mem_of_getElem? (i := 50) rfl))) (ty := .int) (by decide)
  have F_intLen_a334 : Fld Z h333 a334 "java/math/MutableBigInteger" "intLen" "I" (.int (0 : Int32)) := D338 (Or.inl (hw _ (List.mem_of_getElem? (i := 54) rfl))) (ty := .int) (by decide)
  have F_value_a334 : Fld Z h333 a334 "java/math/MutableBigInteger" "value" "[I" .null := D338 (Or.inl (hw _ (List.mem_of_getElem? (i := 69) rfl))) (ty := (.array .int)) (by decide)
  refine dup (pc' := 37) dav36 rfl rfl ?_
  refine aloadN (pc' := 38) dav37 rfl rfl rfl ?_
  have lt_m2 := A337.lt
  refine call (i := 47) (i2 := 43) (Wd := 1) (pc' := 41) (kInit (i := 44) (i2 := 45) (i4 := 47) (a := a334) (argsL := [(.ref b)]) (S' := [(.ref a334)]) (Wd := 1) dav38 rfl rfl rfl rfl (by decide) rfl pd_11 rfl rfl (Nat.le_of_ble_eq_true rfl)) (rm_mbB1 l Z a0 hw hEL n0 a334 b 1 1 _ A337 F_value_a334 F_offset_a334 F_intLen_a334 (Hb.ext (keepExt K))) rfl rfl (by simp) (by decide) (by decide) (by decide) (by decide) rfl fun v_ h339 P340 sz341 => ?_
  obtain ⟨t2, rfl, K2, ht2, H2⟩ := P340
  have sz_t2 : h.size ≤ t2 := Nat.le_trans K.1 ht2
  have ne_a325_t2 : a325 ≠ t2 := Nat.ne_of_lt (Nat.lt_of_lt_of_le H1.lt ht2)
  have ne_t1_t2 : t1 ≠ t2 := Nat.ne_of_lt (Nat.lt_of_lt_of_le H1.ltA ht2)
  have ne_a334_t2 : a334 ≠ t2 := Nat.ne_of_lt (Nat.lt_of_lt_of_le A337.lt ht2)
  replace K := K.trans K2 (allS (Or.inr sz_a334) all0)
  replace H1 := H1.keep K2 (ninS ne_a325_a334 nin0) (ninS ne_t1_a334 nin0)
  refine fsz fun Fz => ?_
  have nb_m2 : n0 ≤ t2 := Nat.le_trans (Fz a334 (by simp)).1 (Nat.le_trans (Nat.le_of_lt lt_m2) ht2)
  refine adopt rfl nb_m2 H2.ltA ?_
  refine at' (ce' := 4) (sl' := 10) (pc' := 41) (S' := [(.ref a334)]) rfl rfl rfl rfl rfl ?_
  refine astoreN (pc' := 42) (L' := #[.val (.ref a), .val (.ref b), .val (.ref a325), .val (.ref a334), .unset]) dav41 rfl rfl rfl ?_
  refine aloadN (pc' := 43) dav42 rfl rfl rfl ?_
  refine aloadN (pc' := 44) dav43 rfl rfl rfl ?_
  refine call (i := 74) (i2 := 43) (Wd := 0) (pc' := 47) (kVirt (i := 70) (i2 := 71) (i3 := 73) (i4 := 72) (C := "java/math/MutableBigInteger") (a := a325) (argsL := [(.ref a334)]) (S' := []) (Wd := 0) dav44 rfl rfl rfl rfl (H1.1) (by decide) rfl pd_7 rfl rfl (Nat.le_of_ble_eq_true rfl)) (rm_hy2 l Z a0 hw hEL n0 a325 t1 a334 t2 x y _ H1 H2 ne_a325_a334 ne_t1_t2 hx) rfl rfl (by simp) (by decide) (by decide) (by decide) (by decide) rfl fun v_ h342 P343 sz344 => ?_
  obtain ⟨r9, t9, rfl, K9, H9⟩ := P343
  replace K := K.trans K9 (allS (Or.inr sz_a325) (allS (Or.inr sz_t1) (allS (Or.inr sz_a334) (allS (Or.inr sz_t2) all0))))
  refine at' (ce' := 8) (sl' := 18) (pc' := 47) (S' := [(.ref r9)]) rfl rfl rfl rfl rfl ?_
  refine astore (pc' := 49) (L' := #[.val (.ref a), .val (.ref b), .val (.ref a325), .val (.ref a334), .val (.ref r9)]) dav47 rfl rfl rfl ?_
  refine aload (pc' := 51) dav49 rfl rfl rfl ?_
  refine iconst (pc' := 52) (v := (1 : Int32)) dav51 rfl rfl ?_
  refine call (i := 112) (i2 := 43) (Wd := 0) (pc' := 55) (kVirt (i := 108) (i2 := 109) (i3 := 111) (i4 := 110) (C := "java/math/MutableBigInteger") (a := r9) (argsL := [(.int (1 : Int32))]) (S' := []) (Wd := 0) dav52 rfl rfl rfl rfl (H9.1) (by decide) rfl pd_12 rfl rfl (Nat.le_of_ble_eq_true rfl)) (rm_tb1 l Z a0 hw hEL n0 r9 t9 1 1 _ H9 (by decide)) rfl rfl (by simp) (by decide) (by decide) (by decide) (by decide) rfl fun v_ h345 P346 sz347 => ?_
  obtain ⟨g, rfl, X9, B9⟩ := P346
  replace K := K.ext X9
  refine at' (ce' := 9) (sl' := 24) (pc' := 55) (S' := [(.ref g)]) rfl rfl rfl rfl rfl ?_
  exact retA dav55 rfl rfl rfl (by decide) (by decide) ⟨g, rfl, keepExt K, B9⟩
set_option maxRecDepth 65536 in
set_option maxHeartbeats 40000000 in
theorem rm_clr (l : Launch) (Z : State) (a0 : Array Value) (hw : ∀ d ∈ tables_1, d.before a0 Z = true) (hEL : EW Z a0 []) (n0 : Nat) (q tq : Addr) (h : Heap)  (Hq : MB Z h q tq 0 0 [0]) :
    Met l true Z [] n0 (⟨"java/math/MutableBigInteger", "clear", "()V"⟩ : MethodName) jdk_2101_method_13_code 3 none ({ frames := 0, cells := 0, slots := 0, locals := 0 } : Room) [] #[(.ref q)] [q, tq] h (fun v h' => v = none ∧ Keep h h' [q, tq] ∧ MB Z h' q tq 0 0 [0]) := by
  refine Met.of_body (a0 := a0) (L0 := #[.val (.ref q), .unset, .unset]) (plainFor_of_name (by first | (simp [plainName, overriddenIn]; done) | decide +kernel)) (fun m => by first | rfl | (simp [entryFrame, mkF, argsToLocals, Value.category]; done)) hw hEL (by decide) ?_
  have K : Keep h h [q, tq] := Keep.refl _ _
  obtain ⟨Eq, Vq, Oq, Lq, kq, Aq⟩ := id Hq
  have Aq : Arv Z h tq kq .int (1 : Int32) [(.int (0 : Int32))] (.int (0 : Int32)) := Aq
  have ne_q_tq : q ≠ tq := Eq.neArv Aq (hw _ (List.mem_of_getElem? (i := 42) rfl))
  refine aloadN (pc' := 1) daw0 rfl rfl rfl ?_
  refine aloadN (pc' := 2) daw1 rfl rfl rfl ?_
  refine iconst (pc' := 3) (v := (0 : Int32)) daw2 rfl rfl ?_
  refine dup_x1 (pc' := 4) daw3 rfl rfl rfl ?_
  refine putfield (i := 53) (i2 := 54) (i3 := 42) (pc' := 7) (v' := (.int (0 : Int32))) (ty := .int) daw4 rfl (Or.inl rfl) rfl Lq Eq (by decide) rfl rfl (by simp) rfl fun h348 W349 => ?_
  replace K := K.wr W349 (Or.inl (by simp))
  replace Eq := Eq.wr W349
  replace Vq := Vq.other W349 (Or.inr (slot_ne (Or.inl (hw _ (List.mem_of_getElem? (i := 69) rfl))) (Or.inl (hw _ (List.mem_of_getElem? (i := 54) rfl))) (by decide) (t := (.array .int)) (t' := .int) (by decide) (by decide)))
  replace Oq := Oq.other W349 (Or.inr (slot_ne (Or.inl (hw _ (List.mem_of_getElem? (i := 50) rfl))) (Or.inl (hw _ (List.mem_of_getElem? (i := 54) rfl))) (by decide) (t := .int) (t' := .int) (by decide) (by decide)))
  replace Lq := Lq.same W349
  replace Aq := Aq.other W349 (Ne.symm ne_q_tq)
  refine putfield (i := 49) (i2 := 50) (i3 := 42) (pc' := 10) (v' := (.int (0 : Int32))) (ty := .int) daw7 rfl (Or.inl rfl) rfl Oq Eq (by decide) rfl rfl (by simp) rfl fun h350 W351 => ?_
  replace K := K.wr W351 (Or.inl (by simp))
  replace Eq := Eq.wr W351
  replace Vq := Vq.other W351 (Or.inr (slot_ne (Or.inl (hw _ (List.mem_of_getElem? (i := 69) rfl))) (Or.inl (hw _ (List.mem_of_getElem? (i := 50) rfl))) (by decide) (t := (.array .int)) (t' := .int) (by decide) (by decide)))
  replace Oq := Oq.same W351
  replace Lq := Lq.other W351 (Or.inr (slot_ne (Or.inl (hw _ (List.mem_of_getElem? (i := 54) rfl))) (Or.inl (hw _ (List.mem_of_getElem? (i := 50) rfl))) (by decide) (t := .int) (t' := .int) (by decide) (by decide)))
  replace Aq := Aq.other W351 (Ne.symm ne_q_tq)
  refine iconst (pc' := 11) (v := (0 : Int32)) daw10 rfl rfl ?_
  refine istoreN (pc' := 12) (L' := #[.val (.ref q), .val (.int (0 : Int32)), .unset]) daw11 rfl rfl ?_
  refine aloadN (pc' := 13) daw12 rfl rfl rfl ?_
  refine getfield (i := 68) (pc' := 16) daw13 rfl Vq rfl ?_
  refine arraylength (pc' := 17) daw16 Aq rfl ?_
  refine istoreN (pc' := 18) (L' := #[.val (.ref q), .val (.int (0 : Int32)), .val (.int (1 : Int32))]) daw17 rfl rfl ?_
  refine iloadN (pc' := 19) daw18 rfl rfl ?_
  refine iloadN (pc' := 20) daw19 rfl rfl ?_
  refine icmpF (pc' := 23) daw20 (by decide : (0 : Int32) < (1 : Int32)) rfl ?_
  refine aloadN (pc' := 24) daw23 rfl rfl rfl ?_
  refine getfield (i := 68) (pc' := 27) daw24 rfl Vq rfl ?_
  refine iloadN (pc' := 28) daw27 rfl rfl ?_
  refine iconst (pc' := 29) (v := (0 : Int32)) daw28 rfl rfl ?_
  refine iastore (pc' := 30) daw29 Aq ⟨by decide, by decide⟩ (by simp) (Nat.le_of_ble_eq_true rfl) rfl fun h352 W353 V354 => ?_
  replace K := K.wr W353 (Or.inl (by simp))
  replace Eq := Eq.wr W353
  replace Vq := Vq.other W353 (Or.inl ne_q_tq)
  replace Oq := Oq.other W353 (Or.inl ne_q_tq)
  replace Lq := Lq.other W353 (Or.inl ne_q_tq)
  replace Aq : Arv Z h352 tq kq .int (1 : Int32) [(.int (0 : Int32))] (.int (0 : Int32)) := V354
  refine iinc (pc' := 33) (v := (1 : Int32)) (L' := #[.val (.ref q), .val (.int (1 : Int32)), .val (.int (1 : Int32))]) daw30 rfl rfl rfl rfl ?_
  refine goto (pc' := 18) daw33 (by decide) rfl ?_
  refine iloadN (pc' := 19) daw18 rfl rfl ?_
  refine iloadN (pc' := 20) daw19 rfl rfl ?_
  refine icmpT (pc' := 36) daw20 (by decide : ¬ ((1 : Int32) < (1 : Int32))) (by decide) rfl ?_
  exact retV daw36 rfl (by decide) (by decide) ⟨rfl, K, ⟨Eq, Vq, Oq, Lq, kq, Aq⟩⟩
set_option maxRecDepth 65536 in
set_option maxHeartbeats 40000000 in
theorem rm_dow1 (l : Launch) (Z : State) (a0 : Array Value) (hw : ∀ d ∈ tables_1, d.before a0 Z = true) (hEL : EW Z a0 []) (n0 : Nat) (u tu q tq : Addr) (x : Int32) (h : Heap)  (Hu : MB Z h u tu 0 1 [x]) (Hq : MB Z h q tq 0 0 [0]) (n1 : u ≠ q) (n2 : tu ≠ tq) (hx : ¬ x = 0) :
    Met l true Z [] n0 (⟨"java/math/MutableBigInteger", "divideOneWord", "(ILjava/math/MutableBigInteger;)I"⟩ : MethodName) jdk_2101_method_53_code 15 (some .int) ({ frames := 1, cells := 1, slots := 2, locals := 20 } : Room) [] #[(.ref u), (.int (1 : Int32)), (.ref q)] [q, tq] h (fun v h' => ∃ (t' : Addr) (rm : Int32), v = some (.int rm) ∧ Keep h h' [q, tq] ∧ MB Z h' q t' 0 1 [x]) := by
  refine Met.of_body (a0 := a0) (L0 := #[.val (.ref u), .val (.int (1 : Int32)), .val (.ref q), .unset, .unset, .unset, .unset, .unset, .unset, .unset, .unset, .unset, .unset, .unset, .unset]) (plainFor_of_name (by first | (simp [plainName, overriddenIn]; done) | decide +kernel)) (fun m => by first | (simp [entryFrame, mkF, argsToLocals, Value.category]; done) | rfl) hw hEL (by decide) ?_
  have K : Keep h h [q, tq] := Keep.refl _ _
  obtain ⟨Eu, Vu, Ou, Lu, ku, Au⟩ := id Hu
  have Au : Arv Z h tu ku .int (1 : Int32) [(.int x)] (.int (0 : Int32)) := Au
  have ne_u_tu : u ≠ tu := Eu.neArv Au (hw _ (List.mem_of_getElem? (i := 42) rfl))
  obtain ⟨Eq, Vq, Oq, Lq, kq, Aq⟩ := id Hq
  have Aq : Arv Z h tq kq .int (1 : Int32) [(.int (0 : Int32))] (.int (0 : Int32)) := Aq
  have ne_q_tq : q ≠ tq := Eq.neArv Aq (hw _ (List.mem_of_getElem? (i := 42) rfl))
  have ne_u_tq : u ≠ tq := Eu.neArv Aq (hw _ (List.mem_of_getElem? (i := 42) rfl))
  have ne_q_tu : q ≠ tu := Eq.neArv Au (hw _ (List.mem_of_getElem? (i := 42) rfl))
  refine iloadN (pc' := 1) dax0 rfl rfl ?_
  refine i2l (pc' := 2) dax1 rfl ?_
  refine ldc2Long (i := 167) (v := (4294967295 : Int64)) (pc' := 5) dax2 rfl rfl ?_
  refine land (pc' := 6) dax5 rfl ?_
  rw [show (((1 : Int32).toInt64) &&& (4294967295 : Int64)) = (1 : Int64) from by decide]
  refine lstoreN (pc' := 7) (L' := #[.val (.ref u), .val (.int (1 : Int32)), .val (.ref q), .val (.long (1 : Int64)), .second, .unset, .unset, .unset, .unset, .unset, .unset, .unset, .unset, .unset, .unset]) dax6 rfl rfl ?_
  refine aloadN (pc' := 8) dax7 rfl rfl rfl ?_
  refine getfield (i := 53) (pc' := 11) dax8 rfl Lu rfl ?_
  refine iconst (pc' := 12) (v := (1 : Int32)) dax11 rfl rfl ?_
  refine icmpF (pc' := 15) dax12 (rfl : (1 : Int32) = (1 : Int32)) rfl ?_
  refine aloadN (pc' := 16) dax15 rfl rfl rfl ?_
  refine getfield (i := 68) (pc' := 19) dax16 rfl Vu rfl ?_
  refine aloadN (pc' := 20) dax19 rfl rfl rfl ?_
  refine getfield (i := 49) (pc' := 23) dax20 rfl Ou rfl ?_
  refine iaload (v := (.int x)) (pc' := 24) dax23 Au ⟨by decide, by decide⟩ rfl rfl ?_
  refine i2l (pc' := 25) dax24 rfl ?_
  refine ldc2Long (i := 167) (v := (4294967295 : Int64)) (pc' := 28) dax25 rfl rfl ?_
  refine land (pc' := 29) dax28 rfl ?_
  refine lstore (pc' := 31) (L' := #[.val (.ref u), .val (.int (1 : Int32)), .val (.ref q), .val (.long (1 : Int64)), .second, .val (.long ((x.toInt64) &&& (4294967295 : Int64))), .second, .unset, .unset, .unset, .unset, .unset, .unset, .unset, .unset]) dax29 rfl rfl ?_
  refine lload (pc' := 33) dax31 rfl rfl ?_
  refine lloadN (pc' := 34) dax33 rfl rfl ?_
  refine ldiv (pc' := 35) dax34 (by decide) rfl ?_
  rw [div1]
  refine l2i (pc' := 36) dax35 rfl ?_
  rw [show (((x.toInt64) &&& (4294967295 : Int64)).toInt32) = x from msk_l2i x]
  refine istore (pc' := 38) (L' := #[.val (.ref u), .val (.int (1 : Int32)), .val (.ref q), .val (.long (1 : Int64)), .second, .val (.long ((x.toInt64) &&& (4294967295 : Int64))), .second, .val (.int x), .unset, .unset, .unset, .unset, .unset, .unset, .unset]) dax36 rfl rfl ?_
  refine lload (pc' := 40) dax38 rfl rfl ?_
  refine iload (pc' := 42) dax40 rfl rfl ?_
  refine i2l (pc' := 43) dax42 rfl ?_
  refine lloadN (pc' := 44) dax43 rfl rfl ?_
  refine lmul (pc' := 45) dax44 rfl ?_
  refine lsub (pc' := 46) dax45 rfl ?_
  refine l2i (pc' := 47) dax46 rfl ?_
  refine istore (pc' := 49) (L' := #[.val (.ref u), .val (.int (1 : Int32)), .val (.ref q), .val (.long (1 : Int64)), .second, .val (.long ((x.toInt64) &&& (4294967295 : Int64))), .second, .val (.int x), .val (.int ((((x.toInt64) &&& (4294967295 : Int64)) - ((x.toInt64) * (1 : Int64))).toInt32)), .unset, .unset, .unset, .unset, .unset, .unset]) dax47 rfl rfl ?_
  refine aloadN (pc' := 50) dax49 rfl rfl rfl ?_
  refine getfield (i := 68) (pc' := 53) dax50 rfl Vq rfl ?_
  refine iconst (pc' := 54) (v := (0 : Int32)) dax53 rfl rfl ?_
  refine iload (pc' := 56) dax54 rfl rfl ?_
  refine iastore (pc' := 57) dax56 Aq ⟨by decide, by decide⟩ (by simp) (Nat.le_of_ble_eq_true rfl) rfl fun h355 W356 V357 => ?_
  replace K := K.wr W356 (Or.inl (by simp))
  replace Eu := Eu.wr W356
  replace Vu := Vu.other W356 (Or.inl ne_u_tq)
  replace Ou := Ou.other W356 (Or.inl ne_u_tq)
  replace Lu := Lu.other W356 (Or.inl ne_u_tq)
  replace Au := Au.other W356 n2
  replace Eq := Eq.wr W356
  replace Vq := Vq.other W356 (Or.inl ne_q_tq)
  replace Oq := Oq.other W356 (Or.inl ne_q_tq)
  replace Lq := Lq.other W356 (Or.inl ne_q_tq)
  replace Aq : Arv Z h355 tq kq .int (1 : Int32) [(.int x)] (.int (0 : Int32)) := V357
  refine aloadN (pc' := 58) dax57 rfl rfl rfl ?_
  refine iload (pc' := 60) dax58 rfl rfl ?_
  refine ifT (pc' := 67) dax60 (hx : ¬ (x = (0 : Int32))) (by decide) rfl ?_
  refine iconst (pc' := 68) (v := (1 : Int32)) dax67 rfl rfl ?_
  refine putfield (i := 53) (i2 := 54) (i3 := 42) (pc' := 71) (v' := (.int (1 : Int32))) (ty := .int) dax68 rfl (Or.inl rfl) rfl Lq Eq (by decide) rfl rfl (by simp) rfl fun h358 W359 => ?_
  replace K := K.wr W359 (Or.inl (by simp))
  replace Eu := Eu.wr W359
  replace Vu := Vu.other W359 (Or.inl n1)
  replace Ou := Ou.other W359 (Or.inl n1)
  replace Lu := Lu.other W359 (Or.inl n1)
  replace Au := Au.other W359 (Ne.symm ne_q_tu)
  replace Eq := Eq.wr W359
  replace Vq := Vq.other W359 (Or.inr (slot_ne (Or.inl (hw _ (List.mem_of_getElem? (i := 69) rfl))) (Or.inl (hw _ (List.mem_of_getElem? (i := 54) rfl))) (by decide) (t := (.array .int)) (t' := .int) (by decide) (by decide)))
  replace Oq := Oq.other W359 (Or.inr (slot_ne (Or.inl (hw _ (List.mem_of_getElem? (i := 50) rfl))) (Or.inl (hw _ (List.mem_of_getElem? (i := 54) rfl))) (by decide) (t := .int) (t' := .int) (by decide) (by decide)))
  replace Lq := Lq.same W359
  replace Aq := Aq.other W359 (Ne.symm ne_q_tq)
  refine aloadN (pc' := 72) dax71 rfl rfl rfl ?_
  refine iconst (pc' := 73) (v := (0 : Int32)) dax72 rfl rfl ?_
  refine putfield (i := 49) (i2 := 50) (i3 := 42) (pc' := 76) (v' := (.int (0 : Int32))) (ty := .int) dax73 rfl (Or.inl rfl) rfl Oq Eq (by decide) rfl rfl (by simp) rfl fun h360 W361 => ?_
  replace K := K.wr W361 (Or.inl (by simp))
  replace Eu := Eu.wr W361
  replace Vu := Vu.other W361 (Or.inl n1)
  replace Ou := Ou.other W361 (Or.inl n1)
  replace Lu := Lu.other W361 (Or.inl n1)
  replace Au := Au.other W361 (Ne.symm ne_q_tu)
  replace Eq := Eq.wr W361
  replace Vq := Vq.other W361 (Or.inr (slot_ne (Or.inl (hw _ (List.mem_of_getElem? (i := 69) rfl))) (Or.inl (hw _ (List.mem_of_getElem? (i := 50) rfl))) (by decide) (t := (.array .int)) (t' := .int) (by decide) (by decide)))
  replace Oq := Oq.same W361
  replace Lq := Lq.other W361 (Or.inr (slot_ne (Or.inl (hw _ (List.mem_of_getElem? (i := 54) rfl))) (Or.inl (hw _ (List.mem_of_getElem? (i := 50) rfl))) (by decide) (t := .int) (t' := .int) (by decide) (by decide)))
  replace Aq := Aq.other W361 (Ne.symm ne_q_tq)
  refine iload (pc' := 78) dax76 rfl rfl ?_
  exact retI dax78 rfl (Or.inl rfl) rfl (by decide) (by decide) ⟨_, _, rfl, K, ⟨Eq, Vq, Oq, Lq, kq, Aq⟩⟩
set_option maxRecDepth 65536 in
set_option maxHeartbeats 40000000 in
theorem rm_dow2 (l : Launch) (Z : State) (a0 : Array Value) (hw : ∀ d ∈ tables_1, d.before a0 Z = true) (hEL : EW Z a0 []) (n0 : Nat) (u tu q tq : Addr) (x y : Int32) (h : Heap)  (Hu : MB Z h u tu 0 2 [x, y]) (Hq : MB Z h q tq 0 0 [0]) (n1 : u ≠ q) (n2 : tu ≠ tq) (hx : ¬ x = 0) :
    Met l true Z [] n0 (⟨"java/math/MutableBigInteger", "divideOneWord", "(ILjava/math/MutableBigInteger;)I"⟩ : MethodName) jdk_2101_method_53_code 15 (some .int) ({ frames := 1, cells := 1, slots := 2, locals := 20 } : Room) [] #[(.ref u), (.int (1 : Int32)), (.ref q)] [q, tq] h (fun v h' => ∃ (t' : Addr) (rm : Int32), v = some (.int rm) ∧ Keep h h' [q, tq] ∧ MB Z h' q t' 0 2 [x, y]) := by
  refine Met.of_body (a0 := a0) (L0 := #[.val (.ref u), .val (.int (1 : Int32)), .val (.ref q), .unset, .unset, .unset, .unset, .unset, .unset, .unset, .unset, .unset, .unset, .unset, .unset]) (plainFor_of_name (by first | (simp [plainName, overriddenIn]; done) | decide +kernel)) (fun m => by first | (simp [entryFrame, mkF, argsToLocals, Value.category]; done) | rfl) hw hEL (by decide) ?_
  have K : Keep h h [q, tq] := Keep.refl _ _
  obtain ⟨Eu, Vu, Ou, Lu, ku, Au⟩ := id Hu
  have Au : Arv Z h tu ku .int (2 : Int32) [(.int x), (.int y)] (.int (0 : Int32)) := Au
  have ne_u_tu : u ≠ tu := Eu.neArv Au (hw _ (List.mem_of_getElem? (i := 42) rfl))
  obtain ⟨Eq, Vq, Oq, Lq, kq, Aq⟩ := id Hq
  have Aq : Arv Z h tq kq .int (1 : Int32) [(.int (0 : Int32))] (.int (0 : Int32)) := Aq
  have ne_q_tq : q ≠ tq := Eq.neArv Aq (hw _ (List.mem_of_getElem? (i := 42) rfl))
  have ne_u_tq : u ≠ tq := Eu.neArv Aq (hw _ (List.mem_of_getElem? (i := 42) rfl))
  have ne_q_tu : q ≠ tu := Eq.neArv Au (hw _ (List.mem_of_getElem? (i := 42) rfl))
  refine iloadN (pc' := 1) dax0 rfl rfl ?_
  refine i2l (pc' := 2) dax1 rfl ?_
  refine ldc2Long (i := 167) (v := (4294967295 : Int64)) (pc' := 5) dax2 rfl rfl ?_
  refine land (pc' := 6) dax5 rfl ?_
  rw [show (((1 : Int32).toInt64) &&& (4294967295 : Int64)) = (1 : Int64) from by decide]
  refine lstoreN (pc' := 7) (L' := #[.val (.ref u), .val (.int (1 : Int32)), .val (.ref q), .val (.long (1 : Int64)), .second, .unset, .unset, .unset, .unset, .unset, .unset, .unset, .unset, .unset, .unset]) dax6 rfl rfl ?_
  refine aloadN (pc' := 8) dax7 rfl rfl rfl ?_
  refine getfield (i := 53) (pc' := 11) dax8 rfl Lu rfl ?_
  refine iconst (pc' := 12) (v := (1 : Int32)) dax11 rfl rfl ?_
  refine icmpT (pc' := 79) dax12 (by decide : ¬ ((2 : Int32) = (1 : Int32))) (by decide) rfl ?_
  refine aloadN (pc' := 80) dax79 rfl rfl rfl ?_
  refine getfield (i := 68) (pc' := 83) dax80 rfl Vq rfl ?_
  refine arraylength (pc' := 84) dax83 Aq rfl ?_
  refine aloadN (pc' := 85) dax84 rfl rfl rfl ?_
  refine getfield (i := 53) (pc' := 88) dax85 rfl Lu rfl ?_
  refine icmpF (pc' := 91) dax88 (by decide : (1 : Int32) < (2 : Int32)) rfl ?_
  refine aloadN (pc' := 92) dax91 rfl rfl rfl ?_
  refine aloadN (pc' := 93) dax92 rfl rfl rfl ?_
  refine getfield (i := 53) (pc' := 96) dax93 rfl Lu rfl ?_
  refine newarray (i := 79) (cap := 2) (ty := .int) (pc' := 98) dax96 rfl rfl (by decide) (by decide) (by decide) (by decide) (by decide) rfl fun h362 a363 kc367 g364 E365 V366 => ?_
  have sz_a363 : h.size ≤ a363 := by rw [g364]; exact K.1
  have ne_u_a363 : u ≠ a363 := Nat.ne_of_lt (by rw [g364]; exact Eu.lt)
  have ne_tu_a363 : tu ≠ a363 := Nat.ne_of_lt (by rw [g364]; exact Au.lt)
  have ne_q_a363 : q ≠ a363 := Nat.ne_of_lt (by rw [g364]; exact Eq.lt)
  have ne_tq_a363 : tq ≠ a363 := Nat.ne_of_lt (by rw [g364]; exact Aq.lt)
  replace K := K.ext E365
  replace Eu := Eu.ext E365
  replace Vu := Vu.ext E365
  replace Ou := Ou.ext E365
  replace Lu := Lu.ext E365
  replace Au := Au.ext E365
  replace Eq := Eq.ext E365
  replace Vq := Vq.ext E365
  replace Oq := Oq.ext E365
  replace Lq := Lq.ext E365
  replace Aq := Aq.ext E365
  replace V366 : Arv Z h362 a363 kc367 .int (2 : Int32) [(.int (0 : Int32)), (.int (0 : Int32))] (.int (0 : Int32)) := V366.pad (pad_rep [] (.int (0 : Int32)) 2)
  refine putfield (i := 68) (i2 := 69) (i3 := 42) (pc' := 101) (v' := (.ref a363)) (ty := (.array .int)) dax98 rfl (Or.inl rfl) rfl Vq Eq (by decide) rfl rfl (by simp) rfl fun h368 W369 => ?_
  replace K := K.wr W369 (Or.inl (by simp))
  replace Eu := Eu.wr W369
  replace Vu := Vu.other W369 (Or.inl n1)
  replace Ou := Ou.other W369 (Or.inl n1)
  replace Lu := Lu.other W369 (Or.inl n1)
  replace Au := Au.other W369 (Ne.symm ne_q_tu)
  replace Eq := Eq.wr W369
  replace Vq := Vq.same W369
  replace Oq := Oq.other W369 (Or.inr (slot_ne (Or.inl (hw _ (List.mem_of_getElem? (i := 50) rfl))) (Or.inl (hw _ (List.mem_of_getElem? (i := 69) rfl))) (by decide) (t := .int) (t' := (.array .int)) (by decide) (by decide)))
  replace Lq := Lq.other W369 (Or.inr (slot_ne (Or.inl (hw _ (List.mem_of_getElem? (i := 54) rfl))) (Or.inl (hw _ (List.mem_of_getElem? (i := 69) rfl))) (by decide) (t := .int) (t' := (.array .int)) (by decide) (by decide)))
  replace Aq := Aq.other W369 (Ne.symm ne_q_tq)
  replace V366 := V366.other W369 (Ne.symm ne_q_a363)
  refine aloadN (pc' := 102) dax101 rfl rfl rfl ?_
  refine iconst (pc' := 103) (v := (0 : Int32)) dax102 rfl rfl ?_
  refine putfield (i := 49) (i2 := 50) (i3 := 42) (pc' := 106) (v' := (.int (0 : Int32))) (ty := .int) dax103 rfl (Or.inl rfl) rfl Oq Eq (by decide) rfl rfl (by simp) rfl fun h370 W371 => ?_
  replace K := K.wr W371 (Or.inl (by simp))
  replace Eu := Eu.wr W371
  replace Vu := Vu.other W371 (Or.inl n1)
  replace Ou := Ou.other W371 (Or.inl n1)
  replace Lu := Lu.other W371 (Or.inl n1)
  replace Au := Au.other W371 (Ne.symm ne_q_tu)
  replace Eq := Eq.wr W371
  replace Vq := Vq.other W371 (Or.inr (slot_ne (Or.inl (hw _ (List.mem_of_getElem? (i := 69) rfl))) (Or.inl (hw _ (List.mem_of_getElem? (i := 50) rfl))) (by decide) (t := (.array .int)) (t' := .int) (by decide) (by decide)))
  replace Oq := Oq.same W371
  replace Lq := Lq.other W371 (Or.inr (slot_ne (Or.inl (hw _ (List.mem_of_getElem? (i := 54) rfl))) (Or.inl (hw _ (List.mem_of_getElem? (i := 50) rfl))) (by decide) (t := .int) (t' := .int) (by decide) (by decide)))
  replace Aq := Aq.other W371 (Ne.symm ne_q_tq)
  replace V366 := V366.other W371 (Ne.symm ne_q_a363)
  refine aloadN (pc' := 107) dax106 rfl rfl rfl ?_
  refine aloadN (pc' := 108) dax107 rfl rfl rfl ?_
  refine getfield (i := 53) (pc' := 111) dax108 rfl Lu rfl ?_
  refine putfield (i := 53) (i2 := 54) (i3 := 42) (pc' := 114) (v' := (.int (2 : Int32))) (ty := .int) dax111 rfl (Or.inl rfl) rfl Lq Eq (by decide) rfl rfl (by simp) rfl fun h372 W373 => ?_
  replace K := K.wr W373 (Or.inl (by simp))
  replace Eu := Eu.wr W373
  replace Vu := Vu.other W373 (Or.inl n1)
  replace Ou := Ou.other W373 (Or.inl n1)
  replace Lu := Lu.other W373 (Or.inl n1)
  replace Au := Au.other W373 (Ne.symm ne_q_tu)
  replace Eq := Eq.wr W373
  replace Vq := Vq.other W373 (Or.inr (slot_ne (Or.inl (hw _ (List.mem_of_getElem? (i := 69) rfl))) (Or.inl (hw _ (List.mem_of_getElem? (i := 54) rfl))) (by decide) (t := (.array .int)) (t' := .int) (by decide) (by decide)))
  replace Oq := Oq.other W373 (Or.inr (slot_ne (Or.inl (hw _ (List.mem_of_getElem? (i := 50) rfl))) (Or.inl (hw _ (List.mem_of_getElem? (i := 54) rfl))) (by decide) (t := .int) (t' := .int) (by decide) (by decide)))
  replace Lq := Lq.same W373
  replace Aq := Aq.other W373 (Ne.symm ne_q_tq)
  replace V366 := V366.other W373 (Ne.symm ne_q_a363)
  refine iloadN (pc' := 115) dax114 rfl rfl ?_
  refine callJP (v := .int (Jvm.Free.JP.Integer_numberOfLeadingZeros_I.val (1 : Int32))) (pc' := 118) (kStatic (i := 259) (i2 := 237) (i3 := 96) (i4 := 238) (argsL := [(.int (1 : Int32))]) (S' := []) (Wd := 0) dax115 rfl rfl rfl rfl (by decide) rfl pd_2 rfl rfl (Nat.le_of_ble_eq_true rfl)) (fun hZ hw => Jvm.Free.JP.Integer_numberOfLeadingZeros_I.pays (W := 0) (1 : Int32) (own_nlz hZ hw) (by decide) (by decide)) (fun _ => And.intro rfl trivial) (by decide) (by decide) rfl ?_
  rw [show (Jvm.Free.JP.Integer_numberOfLeadingZeros_I.val (1 : Int32)) = (31 : Int32) from by decide]
  refine istore (pc' := 120) (L' := #[.val (.ref u), .val (.int (1 : Int32)), .val (.ref q), .val (.long (1 : Int64)), .second, .val (.int (31 : Int32)), .unset, .unset, .unset, .unset, .unset, .unset, .unset, .unset, .unset]) dax118 rfl rfl ?_
  refine aloadN (pc' := 121) dax120 rfl rfl rfl ?_
  refine getfield (i := 68) (pc' := 124) dax121 rfl Vu rfl ?_
  refine aloadN (pc' := 125) dax124 rfl rfl rfl ?_
  refine getfield (i := 49) (pc' := 128) dax125 rfl Ou rfl ?_
  refine iaload (v := (.int x)) (pc' := 129) dax128 Au ⟨by decide, by decide⟩ rfl rfl ?_
  refine istore (pc' := 131) (L' := #[.val (.ref u), .val (.int (1 : Int32)), .val (.ref q), .val (.long (1 : Int64)), .second, .val (.int (31 : Int32)), .val (.int x), .unset, .unset, .unset, .unset, .unset, .unset, .unset, .unset]) dax129 rfl rfl ?_
  refine iload (pc' := 133) dax131 rfl rfl ?_
  refine i2l (pc' := 134) dax133 rfl ?_
  refine ldc2Long (i := 167) (v := (4294967295 : Int64)) (pc' := 137) dax134 rfl rfl ?_
  refine land (pc' := 138) dax137 rfl ?_
  refine lstore (pc' := 140) (L' := #[.val (.ref u), .val (.int (1 : Int32)), .val (.ref q), .val (.long (1 : Int64)), .second, .val (.int (31 : Int32)), .val (.int x), .val (.long ((x.toInt64) &&& (4294967295 : Int64))), .second, .unset, .unset, .unset, .unset, .unset, .unset]) dax138 rfl rfl ?_
  refine lload (pc' := 142) dax140 rfl rfl ?_
  refine lloadN (pc' := 143) dax142 rfl rfl ?_
  refine lcmp (pc' := 144) dax143 rfl ?_
  refine ifT (pc' := 157) dax144 (msk_ge hx : ¬ ((lcmpW ((x.toInt64) &&& (4294967295 : Int64)) (1 : Int64)) < (0 : Int32))) (by decide) rfl ?_
  refine aloadN (pc' := 158) dax157 rfl rfl rfl ?_
  refine getfield (i := 68) (pc' := 161) dax158 rfl Vq rfl ?_
  refine iconst (pc' := 162) (v := (0 : Int32)) dax161 rfl rfl ?_
  refine lload (pc' := 164) dax162 rfl rfl ?_
  refine lloadN (pc' := 165) dax164 rfl rfl ?_
  refine ldiv (pc' := 166) dax165 (by decide) rfl ?_
  rw [div1]
  refine l2i (pc' := 167) dax166 rfl ?_
  rw [show (((x.toInt64) &&& (4294967295 : Int64)).toInt32) = x from msk_l2i x]
  refine iastore (pc' := 168) dax167 V366 ⟨by decide, by decide⟩ (by simp) (Nat.le_of_ble_eq_true rfl) rfl fun h374 W375 V376 => ?_
  replace K := K.wr W375 (Or.inr sz_a363)
  replace Eu := Eu.wr W375
  replace Vu := Vu.other W375 (Or.inl ne_u_a363)
  replace Ou := Ou.other W375 (Or.inl ne_u_a363)
  replace Lu := Lu.other W375 (Or.inl ne_u_a363)
  replace Au := Au.other W375 ne_tu_a363
  replace Eq := Eq.wr W375
  replace Vq := Vq.other W375 (Or.inl ne_q_a363)
  replace Oq := Oq.other W375 (Or.inl ne_q_a363)
  replace Lq := Lq.other W375 (Or.inl ne_q_a363)
  replace Aq := Aq.other W375 ne_tq_a363
  replace V366 : Arv Z h374 a363 kc367 .int (2 : Int32) [(.int x), (.int (0 : Int32))] (.int (0 : Int32)) := V376
  refine lload (pc' := 170) dax168 rfl rfl ?_
  refine aloadN (pc' := 171) dax170 rfl rfl rfl ?_
  refine getfield (i := 68) (pc' := 174) dax171 rfl Vq rfl ?_
  refine iconst (pc' := 175) (v := (0 : Int32)) dax174 rfl rfl ?_
  refine iaload (v := (.int x)) (pc' := 176) dax175 V366 ⟨by decide, by decide⟩ rfl rfl ?_
  refine i2l (pc' := 177) dax176 rfl ?_
  refine lloadN (pc' := 178) dax177 rfl rfl ?_
  refine lmul (pc' := 179) dax178 rfl ?_
  refine lsub (pc' := 180) dax179 rfl ?_
  refine l2i (pc' := 181) dax180 rfl ?_
  rw [show ((((x.toInt64) &&& (4294967295 : Int64)) - ((x.toInt64) * (1 : Int64))).toInt32) = (0 : Int32) from rem0 x]
  refine istore (pc' := 183) (L' := #[.val (.ref u), .val (.int (1 : Int32)), .val (.ref q), .val (.long (1 : Int64)), .second, .val (.int (31 : Int32)), .val (.int (0 : Int32)), .val (.long ((x.toInt64) &&& (4294967295 : Int64))), .second, .unset, .unset, .unset, .unset, .unset, .unset]) dax181 rfl rfl ?_
  refine iload (pc' := 185) dax183 rfl rfl ?_
  refine i2l (pc' := 186) dax185 rfl ?_
  refine ldc2Long (i := 167) (v := (4294967295 : Int64)) (pc' := 189) dax186 rfl rfl ?_
  refine land (pc' := 190) dax189 rfl ?_
  rw [show (((0 : Int32).toInt64) &&& (4294967295 : Int64)) = (0 : Int64) from by decide]
  refine lstore (pc' := 192) (L' := #[.val (.ref u), .val (.int (1 : Int32)), .val (.ref q), .val (.long (1 : Int64)), .second, .val (.int (31 : Int32)), .val (.int (0 : Int32)), .val (.long (0 : Int64)), .second, .unset, .unset, .unset, .unset, .unset, .unset]) dax190 rfl rfl ?_
  refine aloadN (pc' := 193) dax192 rfl rfl rfl ?_
  refine getfield (i := 53) (pc' := 196) dax193 rfl Lu rfl ?_
  refine istore (pc' := 198) (L' := #[.val (.ref u), .val (.int (1 : Int32)), .val (.ref q), .val (.long (1 : Int64)), .second, .val (.int (31 : Int32)), .val (.int (0 : Int32)), .val (.long (0 : Int64)), .second, .val (.int (2 : Int32)), .unset, .unset, .unset, .unset, .unset]) dax196 rfl rfl ?_
  refine iinc (pc' := 201) (v := (1 : Int32)) (L' := #[.val (.ref u), .val (.int (1 : Int32)), .val (.ref q), .val (.long (1 : Int64)), .second, .val (.int (31 : Int32)), .val (.int (0 : Int32)), .val (.long (0 : Int64)), .second, .val (.int (1 : Int32)), .unset, .unset, .unset, .unset, .unset]) dax198 rfl rfl rfl rfl ?_
  refine iload (pc' := 203) dax201 rfl rfl ?_
  refine ifF (pc' := 206) dax203 (by decide : (0 : Int32) < (1 : Int32)) rfl ?_
  refine lload (pc' := 208) dax206 rfl rfl ?_
  refine bipush (pc' := 210) (v := (32 : Int32)) dax208 rfl rfl ?_
  refine lshl (pc' := 211) dax210 rfl ?_
  rw [show ((0 : Int64) <<< ((32 : Int32) &&& 0x3f).toInt64) = (0 : Int64) from by decide]
  refine aloadN (pc' := 212) dax211 rfl rfl rfl ?_
  refine getfield (i := 68) (pc' := 215) dax212 rfl Vu rfl ?_
  refine aloadN (pc' := 216) dax215 rfl rfl rfl ?_
  refine getfield (i := 49) (pc' := 219) dax216 rfl Ou rfl ?_
  refine aloadN (pc' := 220) dax219 rfl rfl rfl ?_
  refine getfield (i := 53) (pc' := 223) dax220 rfl Lu rfl ?_
  refine iadd (pc' := 224) dax223 rfl ?_
  rw [show ((0 : Int32) + (2 : Int32)) = (2 : Int32) from by decide]
  refine iload (pc' := 226) dax224 rfl rfl ?_
  refine isub (pc' := 227) dax226 rfl ?_
  rw [show ((2 : Int32) - (1 : Int32)) = (1 : Int32) from by decide]
  refine iaload (v := (.int y)) (pc' := 228) dax227 Au ⟨by decide, by decide⟩ rfl rfl ?_
  refine i2l (pc' := 229) dax228 rfl ?_
  refine ldc2Long (i := 167) (v := (4294967295 : Int64)) (pc' := 232) dax229 rfl rfl ?_
  refine land (pc' := 233) dax232 rfl ?_
  refine lor (pc' := 234) dax233 rfl ?_
  rw [show ((0 : Int64) ||| ((y.toInt64) &&& (4294967295 : Int64))) = ((y.toInt64) &&& (4294967295 : Int64)) from own_zor _]
  refine lstore (pc' := 236) (L' := #[.val (.ref u), .val (.int (1 : Int32)), .val (.ref q), .val (.long (1 : Int64)), .second, .val (.int (31 : Int32)), .val (.int (0 : Int32)), .val (.long (0 : Int64)), .second, .val (.int (1 : Int32)), .val (.long ((y.toInt64) &&& (4294967295 : Int64))), .second, .unset, .unset, .unset]) dax234 rfl rfl ?_
  refine lload (pc' := 238) dax236 rfl rfl ?_
  refine lconst (pc' := 239) (v := (0 : Int64)) dax238 rfl rfl ?_
  refine lcmp (pc' := 240) dax239 rfl ?_
  refine ifF (pc' := 243) dax240 (msk_nn y : ¬ ((lcmpW ((y.toInt64) &&& (4294967295 : Int64)) (0 : Int64)) < (0 : Int32))) rfl ?_
  refine lload (pc' := 245) dax243 rfl rfl ?_
  refine lloadN (pc' := 246) dax245 rfl rfl ?_
  refine ldiv (pc' := 247) dax246 (by decide) rfl ?_
  rw [div1]
  refine l2i (pc' := 248) dax247 rfl ?_
  rw [show (((y.toInt64) &&& (4294967295 : Int64)).toInt32) = y from msk_l2i y]
  refine istore (pc' := 250) (L' := #[.val (.ref u), .val (.int (1 : Int32)), .val (.ref q), .val (.long (1 : Int64)), .second, .val (.int (31 : Int32)), .val (.int (0 : Int32)), .val (.long (0 : Int64)), .second, .val (.int (1 : Int32)), .val (.long ((y.toInt64) &&& (4294967295 : Int64))), .second, .val (.int y), .unset, .unset]) dax248 rfl rfl ?_
  refine lload (pc' := 252) dax250 rfl rfl ?_
  refine iload (pc' := 254) dax252 rfl rfl ?_
  refine i2l (pc' := 255) dax254 rfl ?_
  refine lloadN (pc' := 256) dax255 rfl rfl ?_
  refine lmul (pc' := 257) dax256 rfl ?_
  refine lsub (pc' := 258) dax257 rfl ?_
  refine l2i (pc' := 259) dax258 rfl ?_
  rw [show ((((y.toInt64) &&& (4294967295 : Int64)) - ((y.toInt64) * (1 : Int64))).toInt32) = (0 : Int32) from rem0 y]
  refine istore (pc' := 261) (L' := #[.val (.ref u), .val (.int (1 : Int32)), .val (.ref q), .val (.long (1 : Int64)), .second, .val (.int (31 : Int32)), .val (.int (0 : Int32)), .val (.long (0 : Int64)), .second, .val (.int (1 : Int32)), .val (.long ((y.toInt64) &&& (4294967295 : Int64))), .second, .val (.int y), .unset, .unset]) dax259 rfl rfl ?_
  refine goto (pc' := 289) dax261 (by decide) rfl ?_
  refine aloadN (pc' := 290) dax289 rfl rfl rfl ?_
  refine getfield (i := 68) (pc' := 293) dax290 rfl Vq rfl ?_
  refine aloadN (pc' := 294) dax293 rfl rfl rfl ?_
  refine getfield (i := 53) (pc' := 297) dax294 rfl Lu rfl ?_
  refine iload (pc' := 299) dax297 rfl rfl ?_
  refine isub (pc' := 300) dax299 rfl ?_
  rw [show ((2 : Int32) - (1 : Int32)) = (1 : Int32) from by decide]
  refine iload (pc' := 302) dax300 rfl rfl ?_
  refine iastore (pc' := 303) dax302 V366 ⟨by decide, by decide⟩ (by simp) (Nat.le_of_ble_eq_true rfl) rfl fun h377 W378 V379 => ?_
  replace K := K.wr W378 (Or.inr sz_a363)
  replace Eu := Eu.wr W378
  replace Vu := Vu.other W378 (Or.inl ne_u_a363)
  replace Ou := Ou.other W378 (Or.inl ne_u_a363)
  replace Lu := Lu.other W378 (Or.inl ne_u_a363)
  replace Au := Au.other W378 ne_tu_a363
  replace Eq := Eq.wr W378
  replace Vq := Vq.other W378 (Or.inl ne_q_a363)
  replace Oq := Oq.other W378 (Or.inl ne_q_a363)
  replace Lq := Lq.other W378 (Or.inl ne_q_a363)
  replace Aq := Aq.other W378 ne_tq_a363
  replace V366 : Arv Z h377 a363 kc367 .int (2 : Int32) [(.int x), (.int y)] (.int (0 : Int32)) := V379
  refine iload (pc' := 305) dax303 rfl rfl ?_
  refine i2l (pc' := 306) dax305 rfl ?_
  refine ldc2Long (i := 167) (v := (4294967295 : Int64)) (pc' := 309) dax306 rfl rfl ?_
  refine land (pc' := 310) dax309 rfl ?_
  rw [show (((0 : Int32).toInt64) &&& (4294967295 : Int64)) = (0 : Int64) from by decide]
  refine lstore (pc' := 312) (L' := #[.val (.ref u), .val (.int (1 : Int32)), .val (.ref q), .val (.long (1 : Int64)), .second, .val (.int (31 : Int32)), .val (.int (0 : Int32)), .val (.long (0 : Int64)), .second, .val (.int (1 : Int32)), .val (.long ((y.toInt64) &&& (4294967295 : Int64))), .second, .val (.int y), .unset, .unset]) dax310 rfl rfl ?_
  refine goto (pc' := 198) dax312 (by decide) rfl ?_
  refine iinc (pc' := 201) (v := (0 : Int32)) (L' := #[.val (.ref u), .val (.int (1 : Int32)), .val (.ref q), .val (.long (1 : Int64)), .second, .val (.int (31 : Int32)), .val (.int (0 : Int32)), .val (.long (0 : Int64)), .second, .val (.int (0 : Int32)), .val (.long ((y.toInt64) &&& (4294967295 : Int64))), .second, .val (.int y), .unset, .unset]) dax198 rfl rfl rfl rfl ?_
  refine iload (pc' := 203) dax201 rfl rfl ?_
  refine ifT (pc' := 315) dax203 (by decide : ¬ ((0 : Int32) < (0 : Int32))) (by decide) rfl ?_
  refine aloadN (pc' := 316) dax315 rfl rfl rfl ?_
  refine call (i := 253) (i2 := 43) (Wd := 0) (pc' := 319) (kVirt (i := 249) (i2 := 250) (i3 := 252) (i4 := 251) (C := "java/math/MutableBigInteger") (a := q) (argsL := []) (S' := []) (Wd := 0) dax316 rfl rfl rfl rfl Eq (by decide) rfl pd_0 rfl rfl (Nat.le_of_ble_eq_true rfl)) (rm_norm l Z a0 hw hEL n0 q a363 x y _ ⟨Eq, Vq, Oq, Lq, kc367, V366⟩ hx) rfl rfl (by simp) (by decide) (by decide) (by decide) (by decide) rfl fun v_ h380 P381 sz382 => ?_
  obtain ⟨rfl, e383⟩ := P381
  rw [e383]
  refine at' (ce' := 1) (sl' := 2) (pc' := 319) (S' := []) rfl rfl rfl rfl rfl ?_
  refine iload (pc' := 321) dax319 rfl rfl ?_
  refine ifF (pc' := 324) dax321 (by decide : (0 : Int32) < (31 : Int32)) rfl ?_
  refine iload (pc' := 326) dax324 rfl rfl ?_
  refine iloadN (pc' := 327) dax326 rfl rfl ?_
  refine irem (pc' := 328) dax327 (by decide) rfl ?_
  exact retI dax328 rfl (Or.inl rfl) rfl (by decide) (by decide) ⟨_, _, rfl, K, ⟨Eq, Vq, Oq, Lq, kc367, V366⟩⟩
set_option maxRecDepth 65536 in
set_option maxHeartbeats 40000000 in
theorem rm_dk0 (l : Launch) (Z : State) (a0 : Array Value) (hw : ∀ d ∈ tables_1, d.before a0 Z = true) (hEL : EW Z a0 []) (n0 : Nat) (u tu d td q tq : Addr) (h : Heap)  (Hu : MB Z h u tu 0 0 []) (Hd : MB Z h d td 0 1 [1]) (Hq : MB Z h q tq 0 0 [0]) (n1 : u ≠ q) (n2 : tu ≠ tq) (n3 : d ≠ q) (n4 : td ≠ tq)  :
    Met l true Z [] n0 (⟨"java/math/MutableBigInteger", "divideKnuth", "(Ljava/math/MutableBigInteger;Ljava/math/MutableBigInteger;Z)Ljava/math/MutableBigInteger;"⟩ : MethodName) jdk_2101_method_57_code 8 (some (.object "java/math/MutableBigInteger")) ({ frames := 2, cells := 1, slots := 2, locals := 60 } : Room) [] #[(.ref u), (.ref d), (.ref q), (.int (0 : Int32))] [q, tq] h (fun v h' => ∃ t' : Addr, v = some .null ∧ Keep h h' [q, tq] ∧ MB Z h' q t' 0 0 [0]) := by
  refine Met.of_body (a0 := a0) (L0 := #[.val (.ref u), .val (.ref d), .val (.ref q), .val (.int (0 : Int32)), .unset, .unset, .unset, .unset]) (plainFor_of_name (by first | (simp [plainName, overriddenIn]; done) | decide +kernel)) (fun m => by first | rfl | (simp [entryFrame, mkF, argsToLocals, Value.category]; done)) hw hEL (by decide) ?_
  have K : Keep h h [q, tq] := Keep.refl _ _
  obtain ⟨Eu, Vu, Ou, Lu, ku, Au⟩ := id Hu
  have Au : Arv Z h tu ku .int (0 : Int32) [] (.int (0 : Int32)) := Au
  have ne_u_tu : u ≠ tu := Eu.neArv Au (hw _ (List.mem_of_getElem? (i := 42) rfl))
  obtain ⟨Eq, Vq, Oq, Lq, kq, Aq⟩ := id Hq
  have Aq : Arv Z h tq kq .int (1 : Int32) [(.int (0 : Int32))] (.int (0 : Int32)) := Aq
  have ne_q_tq : q ≠ tq := Eq.neArv Aq (hw _ (List.mem_of_getElem? (i := 42) rfl))
  have ne_u_tq : u ≠ tq := Eu.neArv Aq (hw _ (List.mem_of_getElem? (i := 42) rfl))
  have ne_q_tu : q ≠ tu := Eq.neArv Au (hw _ (List.mem_of_getElem? (i := 42) rfl))
  obtain ⟨Ed, Vd, Od, Ld, kd, Ad⟩ := id Hd
  have Ad : Arv Z h td kd .int (1 : Int32) [(.int (1 : Int32))] (.int (0 : Int32)) := Ad
  have ne_d_td : d ≠ td := Ed.neArv Ad (hw _ (List.mem_of_getElem? (i := 42) rfl))
  have ne_d_tq : d ≠ tq := Ed.neArv Aq (hw _ (List.mem_of_getElem? (i := 42) rfl))
  have ne_q_td : q ≠ td := Eq.neArv Ad (hw _ (List.mem_of_getElem? (i := 42) rfl))
  refine aloadN (pc' := 1) day0 rfl rfl rfl ?_
  refine getfield (i := 53) (pc' := 4) day1 rfl Ld rfl ?_
  refine ifT (pc' := 17) day4 (by decide : ¬ ((1 : Int32) = (0 : Int32))) (by decide) rfl ?_
  refine aloadN (pc' := 18) day17 rfl rfl rfl ?_
  refine getfield (i := 53) (pc' := 21) day18 rfl Lu rfl ?_
  refine ifF (pc' := 24) day21 (rfl : (0 : Int32) = (0 : Int32)) rfl ?_
  refine aloadN (pc' := 25) day24 rfl rfl rfl ?_
  refine aloadN (pc' := 26) day25 rfl rfl rfl ?_
  refine iconst (pc' := 27) (v := (0 : Int32)) day26 rfl rfl ?_
  refine dup_x1 (pc' := 28) day27 rfl rfl rfl ?_
  refine putfield (i := 49) (i2 := 50) (i3 := 42) (pc' := 31) (v' := (.int (0 : Int32))) (ty := .int) day28 rfl (Or.inl rfl) rfl Oq Eq (by decide) rfl rfl (by simp) rfl fun h384 W385 => ?_
  replace K := K.wr W385 (Or.inl (by simp))
  replace Eu := Eu.wr W385
  replace Vu := Vu.other W385 (Or.inl n1)
  replace Ou := Ou.other W385 (Or.inl n1)
  replace Lu := Lu.other W385 (Or.inl n1)
  replace Au := Au.other W385 (Ne.symm ne_q_tu)
  replace Eq := Eq.wr W385
  replace Vq := Vq.other W385 (Or.inr (slot_ne (Or.inl (hw _ (List.mem_of_getElem? (i := 69) rfl))) (Or.inl (hw _ (List.mem_of_getElem? (i := 50) rfl))) (by decide) (t := (.array .int)) (t' := .int) (by decide) (by decide)))
  replace Oq := Oq.same W385
  replace Lq := Lq.other W385 (Or.inr (slot_ne (Or.inl (hw _ (List.mem_of_getElem? (i := 54) rfl))) (Or.inl (hw _ (List.mem_of_getElem? (i := 50) rfl))) (by decide) (t := .int) (t' := .int) (by decide) (by decide)))
  replace Aq := Aq.other W385 (Ne.symm ne_q_tq)
  replace Ed := Ed.wr W385
  replace Vd := Vd.other W385 (Or.inl n3)
  replace Od := Od.other W385 (Or.inl n3)
  replace Ld := Ld.other W385 (Or.inl n3)
  replace Ad := Ad.other W385 (Ne.symm ne_q_td)
  refine putfield (i := 53) (i2 := 54) (i3 := 42) (pc' := 34) (v' := (.int (0 : Int32))) (ty := .int) day31 rfl (Or.inl rfl) rfl Lq Eq (by decide) rfl rfl (by simp) rfl fun h386 W387 => ?_
  replace K := K.wr W387 (Or.inl (by simp))
  replace Eu := Eu.wr W387
  replace Vu := Vu.other W387 (Or.inl n1)
  replace Ou := Ou.other W387 (Or.inl n1)
  replace Lu := Lu.other W387 (Or.inl n1)
  replace Au := Au.other W387 (Ne.symm ne_q_tu)
  replace Eq := Eq.wr W387
  replace Vq := Vq.other W387 (Or.inr (slot_ne (Or.inl (hw _ (List.mem_of_getElem? (i := 69) rfl))) (Or.inl (hw _ (List.mem_of_getElem? (i := 54) rfl))) (by decide) (t := (.array .int)) (t' := .int) (by decide) (by decide)))
  replace Oq := Oq.other W387 (Or.inr (slot_ne (Or.inl (hw _ (List.mem_of_getElem? (i := 50) rfl))) (Or.inl (hw _ (List.mem_of_getElem? (i := 54) rfl))) (by decide) (t := .int) (t' := .int) (by decide) (by decide)))
  replace Lq := Lq.same W387
  replace Aq := Aq.other W387 (Ne.symm ne_q_tq)
  replace Ed := Ed.wr W387
  replace Vd := Vd.other W387 (Or.inl n3)
  replace Od := Od.other W387 (Or.inl n3)
  replace Ld := Ld.other W387 (Or.inl n3)
  replace Ad := Ad.other W387 (Ne.symm ne_q_td)
  refine iloadN (pc' := 35) day34 rfl rfl ?_
  refine ifT (pc' := 48) day35 (rfl : (0 : Int32) = (0 : Int32)) (by decide) rfl ?_
  refine aconst_null (pc' := 49) day48 rfl ?_
  exact retA day49 rfl rfl rfl (by decide) (by decide) ⟨tq, rfl, K, ⟨Eq, Vq, Oq, Lq, kq, Aq⟩⟩
set_option maxRecDepth 65536 in
set_option maxHeartbeats 40000000 in
theorem rm_dk1 (l : Launch) (Z : State) (a0 : Array Value) (hw : ∀ d ∈ tables_1, d.before a0 Z = true) (hEL : EW Z a0 []) (n0 : Nat) (u tu d td q tq : Addr) (x : Int32) (h : Heap)  (Hu : MB Z h u tu 0 1 [x]) (Hd : MB Z h d td 0 1 [1]) (Hq : MB Z h q tq 0 0 [0]) (n1 : u ≠ q) (n2 : tu ≠ tq) (n3 : d ≠ q) (n4 : td ≠ tq) (hx : ¬ x = 0) :
    Met l true Z [] n0 (⟨"java/math/MutableBigInteger", "divideKnuth", "(Ljava/math/MutableBigInteger;Ljava/math/MutableBigInteger;Z)Ljava/math/MutableBigInteger;"⟩ : MethodName) jdk_2101_method_57_code 8 (some (.object "java/math/MutableBigInteger")) ({ frames := 2, cells := 1, slots := 2, locals := 60 } : Room) [] #[(.ref u), (.ref d), (.ref q), (.int (0 : Int32))] [q, tq] h (fun v h' => ∃ t' : Addr, v = some .null ∧ Keep h h' [q, tq] ∧ MB Z h' q t' 0 1 [x]) := by
  refine Met.of_body (a0 := a0) (L0 := #[.val (.ref u), .val (.ref d), .val (.ref q), .val (.int (0 : Int32)), .unset, .unset, .unset, .unset]) (plainFor_of_name (by first | (simp [plainName, overriddenIn]; done) | decide +kernel)) (fun m => by first | rfl | (simp [entryFrame, mkF, argsToLocals, Value.category]; done)) hw hEL (by decide) ?_
  have K : Keep h h [q, tq] := Keep.refl _ _
  obtain ⟨Eu, Vu, Ou, Lu, ku, Au⟩ := id Hu
  have Au : Arv Z h tu ku .int (1 : Int32) [(.int x)] (.int (0 : Int32)) := Au
  have ne_u_tu : u ≠ tu := Eu.neArv Au (hw _ (List.mem_of_getElem? (i := 42) rfl))
  obtain ⟨Eq, Vq, Oq, Lq, kq, Aq⟩ := id Hq
  have Aq : Arv Z h tq kq .int (1 : Int32) [(.int (0 : Int32))] (.int (0 : Int32)) := Aq
  have ne_q_tq : q ≠ tq := Eq.neArv Aq (hw _ (List.mem_of_getElem? (i := 42) rfl))
  have ne_u_tq : u ≠ tq := Eu.neArv Aq (hw _ (List.mem_of_getElem? (i := 42) rfl))
  have ne_q_tu : q ≠ tu := Eq.neArv Au (hw _ (List.mem_of_getElem? (i := 42) rfl))
  obtain ⟨Ed, Vd, Od, Ld, kd, Ad⟩ := id Hd
  have Ad : Arv Z h td kd .int (1 : Int32) [(.int (1 : Int32))] (.int (0 : Int32)) := Ad
  have ne_d_td : d ≠ td := Ed.neArv Ad (hw _ (List.mem_of_getElem? (i := 42) rfl))
  have ne_d_tq : d ≠ tq := Ed.neArv Aq (hw _ (List.mem_of_getElem? (i := 42) rfl))
  have ne_q_td : q ≠ td := Eq.neArv Ad (hw _ (List.mem_of_getElem? (i := 42) rfl))
  refine aloadN (pc' := 1) day0 rfl rfl rfl ?_
  refine getfield (i := 53) (pc' := 4) day1 rfl Ld rfl ?_
  refine ifT (pc' := 17) day4 (by decide : ¬ ((1 : Int32) = (0 : Int32))) (by decide) rfl ?_
  refine aloadN (pc' := 18) day17 rfl rfl rfl ?_
  refine getfield (i := 53) (pc' := 21) day18 rfl Lu rfl ?_
  refine ifT (pc' := 50) day21 (by decide : ¬ ((1 : Int32) = (0 : Int32))) (by decide) rfl ?_
  refine aloadN (pc' := 51) day50 rfl rfl rfl ?_
  refine aloadN (pc' := 52) day51 rfl rfl rfl ?_
  refine call (i := 156) (i2 := 43) (Wd := 0) (pc' := 55) (kVirt (i := 152) (i2 := 153) (i3 := 155) (i4 := 154) (C := "java/math/MutableBigInteger") (a := u) (argsL := [(.ref d)]) (S' := []) (Wd := 0) day52 rfl rfl rfl rfl Eu (by decide) rfl pd_4 rfl rfl (Nat.le_of_ble_eq_true rfl)) (rm_cmp11 l Z a0 hw hEL n0 u tu d td x _ Hu Hd hx) rfl rfl (by simp) (by decide) (by decide) (by decide) (by decide) rfl fun v_ h388 P389 sz390 => ?_
  obtain ⟨c, rfl, hc, e391⟩ := P389
  rw [e391]
  rcases hc with ⟨rfl, rfl⟩ | ⟨rfl, hx1⟩
  · skip
    refine at' (ce' := 0) (sl' := 0) (pc' := 55) (S' := [(.int (0 : Int32))]) rfl rfl rfl rfl rfl ?_
    refine istore (pc' := 57) (L' := #[.val (.ref u), .val (.ref d), .val (.ref q), .val (.int (0 : Int32)), .val (.int (0 : Int32)), .unset, .unset, .unset]) day55 rfl rfl ?_
    refine iload (pc' := 59) day57 rfl rfl ?_
    refine ifT (pc' := 89) day59 (by decide : ¬ ((0 : Int32) < (0 : Int32))) (by decide) rfl ?_
    refine iload (pc' := 91) day89 rfl rfl ?_
    refine ifF (pc' := 94) day91 (rfl : (0 : Int32) = (0 : Int32)) rfl ?_
    refine aloadN (pc' := 95) day94 rfl rfl rfl ?_
    refine getfield (i := 68) (pc' := 98) day95 rfl Vq rfl ?_
    refine iconst (pc' := 99) (v := (0 : Int32)) day98 rfl rfl ?_
    refine aloadN (pc' := 100) day99 rfl rfl rfl ?_
    refine iconst (pc' := 101) (v := (1 : Int32)) day100 rfl rfl ?_
    refine dup_x1 (pc' := 102) day101 rfl rfl rfl ?_
    refine putfield (i := 53) (i2 := 54) (i3 := 42) (pc' := 105) (v' := (.int (1 : Int32))) (ty := .int) day102 rfl (Or.inl rfl) rfl Lq Eq (by decide) rfl rfl (by simp) rfl fun h392 W393 => ?_
    replace K := K.wr W393 (Or.inl (by simp))
    replace Eu := Eu.wr W393
    replace Vu := Vu.other W393 (Or.inl n1)
    replace Ou := Ou.other W393 (Or.inl n1)
    replace Lu := Lu.other W393 (Or.inl n1)
    replace Au := Au.other W393 (Ne.symm ne_q_tu)
    replace Eq := Eq.wr W393
    replace Vq := Vq.other W393 (Or.inr (slot_ne (Or.inl (hw _ (List.mem_of_getElem? (i := 69) rfl))) (Or.inl (hw _ (List.mem_of_getElem? (i := 54) rfl))) (by decide) (t := (.array .int)) (t' := .int) (by decide) (by decide)))
    replace Oq := Oq.other W393 (Or.inr (slot_ne (Or.inl (hw _ (List.mem_of_getElem? (i := 50) rfl))) (Or.inl (hw _ (List.mem_of_getElem? (i := 54) rfl))) (by decide) (t := .int) (t' := .int) (by decide) (by decide)))
    replace Lq := Lq.same W393
    replace Aq := Aq.other W393 (Ne.symm ne_q_tq)
    replace Ed := Ed.wr W393
    replace Vd := Vd.other W393 (Or.inl n3)
    replace Od := Od.other W393 (Or.inl n3)
    replace Ld := Ld.other W393 (Or.inl n3)
    replace Ad := Ad.other W393 (Ne.symm ne_q_td)
    refine iastore (pc' := 106) day105 Aq ⟨by decide, by decide⟩ (by simp) (Nat.le_of_ble_eq_true rfl) rfl fun h394 W395 V396 => ?_
    replace K := K.wr W395 (Or.inl (by simp))
    replace Eu := Eu.wr W395
    replace Vu := Vu.other W395 (Or.inl ne_u_tq)
    replace Ou := Ou.other W395 (Or.inl ne_u_tq)
    replace Lu := Lu.other W395 (Or.inl ne_u_tq)
    replace Au := Au.other W395 n2
    replace Eq := Eq.wr W395
    replace Vq := Vq.other W395 (Or.inl ne_q_tq)
    replace Oq := Oq.other W395 (Or.inl ne_q_tq)
    replace Lq := Lq.other W395 (Or.inl ne_q_tq)
    replace Ed := Ed.wr W395
    replace Vd := Vd.other W395 (Or.inl ne_d_tq)
    replace Od := Od.other W395 (Or.inl ne_d_tq)
    replace Ld := Ld.other W395 (Or.inl ne_d_tq)
    replace Ad := Ad.other W395 n4
    replace Aq : Arv Z h394 tq kq .int (1 : Int32) [(.int (1 : Int32))] (.int (0 : Int32)) := V396
    refine aloadN (pc' := 107) day106 rfl rfl rfl ?_
    refine iconst (pc' := 108) (v := (0 : Int32)) day107 rfl rfl ?_
    refine putfield (i := 49) (i2 := 50) (i3 := 42) (pc' := 111) (v' := (.int (0 : Int32))) (ty := .int) day108 rfl (Or.inl rfl) rfl Oq Eq (by decide) rfl rfl (by simp) rfl fun h397 W398 => ?_
    replace K := K.wr W398 (Or.inl (by simp))
    replace Eu := Eu.wr W398
    replace Vu := Vu.other W398 (Or.inl n1)
    replace Ou := Ou.other W398 (Or.inl n1)
    replace Lu := Lu.other W398 (Or.inl n1)
    replace Au := Au.other W398 (Ne.symm ne_q_tu)
    replace Eq := Eq.wr W398
    replace Vq := Vq.other W398 (Or.inr (slot_ne (Or.inl (hw _ (List.mem_of_getElem? (i := 69) rfl))) (Or.inl (hw _ (List.mem_of_getElem? (i := 50) rfl))) (by decide) (t := (.array .int)) (t' := .int) (by decide) (by decide)))
    replace Oq := Oq.same W398
    replace Lq := Lq.other W398 (Or.inr (slot_ne (Or.inl (hw _ (List.mem_of_getElem? (i := 54) rfl))) (Or.inl (hw _ (List.mem_of_getElem? (i := 50) rfl))) (by decide) (t := .int) (t' := .int) (by decide) (by decide)))
    replace Aq := Aq.other W398 (Ne.symm ne_q_tq)
    replace Ed := Ed.wr W398
    replace Vd := Vd.other W398 (Or.inl n3)
    replace Od := Od.other W398 (Or.inl n3)
    replace Ld := Ld.other W398 (Or.inl n3)
    replace Ad := Ad.other W398 (Ne.symm ne_q_td)
    refine iloadN (pc' := 112) day111 rfl rfl ?_
    refine ifT (pc' := 125) day112 (rfl : (0 : Int32) = (0 : Int32)) (by decide) rfl ?_
    refine aconst_null (pc' := 126) day125 rfl ?_
    exact retA day126 rfl rfl rfl (by decide) (by decide) ⟨tq, rfl, K, ⟨Eq, Vq, Oq, Lq, kq, Aq⟩⟩
  · skip
    refine at' (ce' := 0) (sl' := 0) (pc' := 55) (S' := [(.int (1 : Int32))]) rfl rfl rfl rfl rfl ?_
    refine istore (pc' := 57) (L' := #[.val (.ref u), .val (.ref d), .val (.ref q), .val (.int (0 : Int32)), .val (.int (1 : Int32)), .unset, .unset, .unset]) day55 rfl rfl ?_
    refine iload (pc' := 59) day57 rfl rfl ?_
    refine ifT (pc' := 89) day59 (by decide : ¬ ((1 : Int32) < (0 : Int32))) (by decide) rfl ?_
    refine iload (pc' := 91) day89 rfl rfl ?_
    refine ifT (pc' := 127) day91 (by decide : ¬ ((1 : Int32) = (0 : Int32))) (by decide) rfl ?_
    refine aloadN (pc' := 128) day127 rfl rfl rfl ?_
    refine call (i := 161) (i2 := 43) (Wd := 0) (pc' := 131) (kVirt (i := 157) (i2 := 158) (i3 := 160) (i4 := 159) (C := "java/math/MutableBigInteger") (a := q) (argsL := []) (S' := []) (Wd := 0) day128 rfl rfl rfl rfl Eq (by decide) rfl pd_0 rfl rfl (Nat.le_of_ble_eq_true rfl)) (rm_clr l Z a0 hw hEL n0 q tq _ ⟨Eq, Vq, Oq, Lq, kq, Aq⟩) rfl rfl (by simp) (by decide) (by decide) (by decide) (by decide) rfl fun v_ h399 P400 sz401 => ?_
    obtain ⟨rfl, Kc, Hq2⟩ := P400
    replace K := K.trans Kc (allS (Or.inl (by simp)) (allS (Or.inl (by simp)) all0))
    replace Eu := Eu.keep Kc
    replace Vu := Vu.keep Kc (ninS n1 (ninS ne_u_tq nin0))
    replace Ou := Ou.keep Kc (ninS n1 (ninS ne_u_tq nin0))
    replace Lu := Lu.keep Kc (ninS n1 (ninS ne_u_tq nin0))
    replace Au := Au.keep Kc (ninS (Ne.symm ne_q_tu) (ninS n2 nin0))
    replace Eq := Eq.keep Kc
    replace Ed := Ed.keep Kc
    replace Vd := Vd.keep Kc (ninS n3 (ninS ne_d_tq nin0))
    replace Od := Od.keep Kc (ninS n3 (ninS ne_d_tq nin0))
    replace Ld := Ld.keep Kc (ninS n3 (ninS ne_d_tq nin0))
    replace Ad := Ad.keep Kc (ninS (Ne.symm ne_q_td) (ninS n4 nin0))
    refine at' (ce' := 0) (sl' := 0) (pc' := 131) (S' := []) rfl rfl rfl rfl rfl ?_
    obtain ⟨Eq, Vq, Oq, Lq, kq, Aq⟩ := id Hq2
    have Aq : Arv Z h399 tq kq .int (1 : Int32) [(.int (0 : Int32))] (.int (0 : Int32)) := Aq
    refine aloadN (pc' := 132) day131 rfl rfl rfl ?_
    refine getfield (i := 53) (pc' := 135) day132 rfl Ld rfl ?_
    refine iconst (pc' := 136) (v := (1 : Int32)) day135 rfl rfl ?_
    refine icmpF (pc' := 139) day136 (rfl : (1 : Int32) = (1 : Int32)) rfl ?_
    refine aloadN (pc' := 140) day139 rfl rfl rfl ?_
    refine aloadN (pc' := 141) day140 rfl rfl rfl ?_
    refine getfield (i := 68) (pc' := 144) day141 rfl Vd rfl ?_
    refine aloadN (pc' := 145) day144 rfl rfl rfl ?_
    refine getfield (i := 49) (pc' := 148) day145 rfl Od rfl ?_
    refine iaload (v := (.int (1 : Int32))) (pc' := 149) day148 Ad ⟨by decide, by decide⟩ rfl rfl ?_
    refine aloadN (pc' := 150) day149 rfl rfl rfl ?_
    refine call (i := 166) (i2 := 43) (Wd := 0) (pc' := 153) (kVirt (i := 162) (i2 := 163) (i3 := 165) (i4 := 164) (C := "java/math/MutableBigInteger") (a := u) (argsL := [(.int (1 : Int32)), (.ref q)]) (S' := []) (Wd := 0) day150 rfl rfl rfl rfl Eu (by decide) rfl pd_13 rfl rfl (Nat.le_of_ble_eq_true rfl)) (rm_dow1 l Z a0 hw hEL n0 u tu q tq x _ ⟨Eu, Vu, Ou, Lu, ku, Au⟩ ⟨Eq, Vq, Oq, Lq, kq, Aq⟩ n1 n2 hx) rfl rfl (by simp) (by decide) (by decide) (by decide) (by decide) rfl fun v_ h402 P403 sz404 => ?_
    obtain ⟨t', rm, rfl, Kw, Hw⟩ := P403
    replace K := K.trans Kw (allS (Or.inl (by simp)) (allS (Or.inl (by simp)) all0))
    refine at' (ce' := 1) (sl' := 2) (pc' := 153) (S' := [(.int rm)]) rfl rfl rfl rfl rfl ?_
    refine istore (pc' := 155) (L' := #[.val (.ref u), .val (.ref d), .val (.ref q), .val (.int (0 : Int32)), .val (.int (1 : Int32)), .val (.int rm), .unset, .unset]) day153 rfl rfl ?_
    refine iloadN (pc' := 156) day155 rfl rfl ?_
    refine ifT (pc' := 182) day156 (rfl : (0 : Int32) = (0 : Int32)) (by decide) rfl ?_
    refine aconst_null (pc' := 183) day182 rfl ?_
    exact retA day183 rfl rfl rfl (by decide) (by decide) ⟨t', rfl, K, Hw⟩
set_option maxRecDepth 65536 in
set_option maxHeartbeats 40000000 in
theorem rm_dk2 (l : Launch) (Z : State) (a0 : Array Value) (hw : ∀ d ∈ tables_1, d.before a0 Z = true) (hEL : EW Z a0 []) (n0 : Nat) (u tu d td q tq : Addr) (x y : Int32) (h : Heap)  (Hu : MB Z h u tu 0 2 [x, y]) (Hd : MB Z h d td 0 1 [1]) (Hq : MB Z h q tq 0 0 [0]) (n1 : u ≠ q) (n2 : tu ≠ tq) (n3 : d ≠ q) (n4 : td ≠ tq) (hx : ¬ x = 0) :
    Met l true Z [] n0 (⟨"java/math/MutableBigInteger", "divideKnuth", "(Ljava/math/MutableBigInteger;Ljava/math/MutableBigInteger;Z)Ljava/math/MutableBigInteger;"⟩ : MethodName) jdk_2101_method_57_code 8 (some (.object "java/math/MutableBigInteger")) ({ frames := 2, cells := 1, slots := 2, locals := 60 } : Room) [] #[(.ref u), (.ref d), (.ref q), (.int (0 : Int32))] [q, tq] h (fun v h' => ∃ t' : Addr, v = some .null ∧ Keep h h' [q, tq] ∧ MB Z h' q t' 0 2 [x, y]) := by
  refine Met.of_body (a0 := a0) (L0 := #[.val (.ref u), .val (.ref d), .val (.ref q), .val (.int (0 : Int32)), .unset, .unset, .unset, .unset]) (plainFor_of_name (by first | (simp [plainName, overriddenIn]; done) | decide +kernel)) (fun m => by first | rfl | (simp [entryFrame, mkF, argsToLocals, Value.category]; done)) hw hEL (by decide) ?_
  have K : Keep h h [q, tq] := Keep.refl _ _
  obtain ⟨Eu, Vu, Ou, Lu, ku, Au⟩ := id Hu
  have Au : Arv Z h tu ku .int (2 : Int32) [(.int x), (.int y)] (.int (0 : Int32)) := Au
  have ne_u_tu : u ≠ tu := Eu.neArv Au (hw _ (List.mem_of_getElem? (i := 42) rfl))
  obtain ⟨Eq, Vq, Oq, Lq, kq, Aq⟩ := id Hq
  have Aq : Arv Z h tq kq .int (1 : Int32) [(.int (0 : Int32))] (.int (0 : Int32)) := Aq
  have ne_q_tq : q ≠ tq := Eq.neArv Aq (hw _ (List.mem_of_getElem? (i := 42) rfl))
  have ne_u_tq : u ≠ tq := Eu.neArv Aq (hw _ (List.mem_of_getElem? (i := 42) rfl))
  have ne_q_tu : q ≠ tu := Eq.neArv Au (hw _ (List.mem_of_getElem? (i := 42) rfl))
  obtain ⟨Ed, Vd, Od, Ld, kd, Ad⟩ := id Hd
  have Ad : Arv Z h td kd .int (1 : Int32) [(.int (1 : Int32))] (.int (0 : Int32)) := Ad
  have ne_d_td : d ≠ td := Ed.neArv Ad (hw _ (List.mem_of_getElem? (i := 42) rfl))
  have ne_d_tq : d ≠ tq := Ed.neArv Aq (hw _ (List.mem_of_getElem? (i := 42) rfl))
  have ne_q_td : q ≠ td := Eq.neArv Ad (hw _ (List.mem_of_getElem? (i := 42) rfl))
  refine aloadN (pc' := 1) day0 rfl rfl rfl ?_
  refine getfield (i := 53) (pc' := 4) day1 rfl Ld rfl ?_
  refine ifT (pc' := 17) day4 (by decide : ¬ ((1 : Int32) = (0 : Int32))) (by decide) rfl ?_
  refine aloadN (pc' := 18) day17 rfl rfl rfl ?_
  refine getfield (i := 53) (pc' := 21) day18 rfl Lu rfl ?_
  refine ifT (pc' := 50) day21 (by decide : ¬ ((2 : Int32) = (0 : Int32))) (by decide) rfl ?_
  refine aloadN (pc' := 51) day50 rfl rfl rfl ?_
  refine aloadN (pc' := 52) day51 rfl rfl rfl ?_
  refine call (i := 156) (i2 := 43) (Wd := 0) (pc' := 55) (kVirt (i := 152) (i2 := 153) (i3 := 155) (i4 := 154) (C := "java/math/MutableBigInteger") (a := u) (argsL := [(.ref d)]) (S' := []) (Wd := 0) day52 rfl rfl rfl rfl Eu (by decide) rfl pd_4 rfl rfl (Nat.le_of_ble_eq_true rfl)) (rm_cmp21 l Z a0 hw hEL n0 u tu d td x y 1 _ Hu Hd) rfl rfl (by simp) (by decide) (by decide) (by decide) (by decide) rfl fun v_ h405 P406 sz407 => ?_
  obtain ⟨rfl, e408⟩ := P406
  rw [e408]
  refine at' (ce' := 0) (sl' := 0) (pc' := 55) (S' := [(.int (1 : Int32))]) rfl rfl rfl rfl rfl ?_
  refine istore (pc' := 57) (L' := #[.val (.ref u), .val (.ref d), .val (.ref q), .val (.int (0 : Int32)), .val (.int (1 : Int32)), .unset, .unset, .unset]) day55 rfl rfl ?_
  refine iload (pc' := 59) day57 rfl rfl ?_
  refine ifT (pc' := 89) day59 (by decide : ¬ ((1 : Int32) < (0 : Int32))) (by decide) rfl ?_
  refine iload (pc' := 91) day89 rfl rfl ?_
  refine ifT (pc' := 127) day91 (by decide : ¬ ((1 : Int32) = (0 : Int32))) (by decide) rfl ?_
  refine aloadN (pc' := 128) day127 rfl rfl rfl ?_
  refine call (i := 161) (i2 := 43) (Wd := 0) (pc' := 131) (kVirt (i := 157) (i2 := 158) (i3 := 160) (i4 := 159) (C := "java/math/MutableBigInteger") (a := q) (argsL := []) (S' := []) (Wd := 0) day128 rfl rfl rfl rfl Eq (by decide) rfl pd_0 rfl rfl (Nat.le_of_ble_eq_true rfl)) (rm_clr l Z a0 hw hEL n0 q tq _ ⟨Eq, Vq, Oq, Lq, kq, Aq⟩) rfl rfl (by simp) (by decide) (by decide) (by decide) (by decide) rfl fun v_ h409 P410 sz411 => ?_
  obtain ⟨rfl, Kc, Hq2⟩ := P410
  replace K := K.trans Kc (allS (Or.inl (by simp)) (allS (Or.inl (by simp)) all0))
  replace Eu := Eu.keep Kc
  replace Vu := Vu.keep Kc (ninS n1 (ninS ne_u_tq nin0))
  replace Ou := Ou.keep Kc (ninS n1 (ninS ne_u_tq nin0))
  replace Lu := Lu.keep Kc (ninS n1 (ninS ne_u_tq nin0))
  replace Au := Au.keep Kc (ninS (Ne.symm ne_q_tu) (ninS n2 nin0))
  replace Eq := Eq.keep Kc
  replace Ed := Ed.keep Kc
  replace Vd := Vd.keep Kc (ninS n3 (ninS ne_d_tq nin0))
  replace Od := Od.keep Kc (ninS n3 (ninS ne_d_tq nin0))
  replace Ld := Ld.keep Kc (ninS n3 (ninS ne_d_tq nin0))
  replace Ad := Ad.keep Kc (ninS (Ne.symm ne_q_td) (ninS n4 nin0))
  refine at' (ce' := 0) (sl' := 0) (pc' := 131) (S' := []) rfl rfl rfl rfl rfl ?_
  obtain ⟨Eq, Vq, Oq, Lq, kq, Aq⟩ := id Hq2
  have Aq : Arv Z h409 tq kq .int (1 : Int32) [(.int (0 : Int32))] (.int (0 : Int32)) := Aq
  refine aloadN (pc' := 132) day131 rfl rfl rfl ?_
  refine getfield (i := 53) (pc' := 135) day132 rfl Ld rfl ?_
  refine iconst (pc' := 136) (v := (1 : Int32)) day135 rfl rfl ?_
  refine icmpF (pc' := 139) day136 (rfl : (1 : Int32) = (1 : Int32)) rfl ?_
  refine aloadN (pc' := 140) day139 rfl rfl rfl ?_
  refine aloadN (pc' := 141) day140 rfl rfl rfl ?_
  refine getfield (i := 68) (pc' := 144) day141 rfl Vd rfl ?_
  refine aloadN (pc' := 145) day144 rfl rfl rfl ?_
  refine getfield (i := 49) (pc' := 148) day145 rfl Od rfl ?_
  refine iaload (v := (.int (1 : Int32))) (pc' := 149) day148 Ad ⟨by decide, by decide⟩ rfl rfl ?_
  refine aloadN (pc' := 150) day149 rfl rfl rfl ?_
  refine call (i := 166) (i2 := 43) (Wd := 0) (pc' := 153) (kVirt (i := 162) (i2 := 163) (i3 := 165) (i4 := 164) (C := "java/math/MutableBigInteger") (a := u) (argsL := [(.int (1 : Int32)), (.ref q)]) (S' := []) (Wd := 0) day150 rfl rfl rfl rfl Eu (by decide) rfl pd_13 rfl rfl (Nat.le_of_ble_eq_true rfl)) (rm_dow2 l Z a0 hw hEL n0 u tu q tq x y _ ⟨Eu, Vu, Ou, Lu, ku, Au⟩ ⟨Eq, Vq, Oq, Lq, kq, Aq⟩ n1 n2 hx) rfl rfl (by simp) (by decide) (by decide) (by decide) (by decide) rfl fun v_ h412 P413 sz414 => ?_
  obtain ⟨t', rm, rfl, Kw, Hw⟩ := P413
  replace K := K.trans Kw (allS (Or.inl (by simp)) (allS (Or.inl (by simp)) all0))
  refine at' (ce' := 1) (sl' := 2) (pc' := 153) (S' := [(.int rm)]) rfl rfl rfl rfl rfl ?_
  refine istore (pc' := 155) (L' := #[.val (.ref u), .val (.ref d), .val (.ref q), .val (.int (0 : Int32)), .val (.int (1 : Int32)), .val (.int rm), .unset, .unset]) day153 rfl rfl ?_
  refine iloadN (pc' := 156) day155 rfl rfl ?_
  refine ifT (pc' := 182) day156 (rfl : (0 : Int32) = (0 : Int32)) (by decide) rfl ?_
  refine aconst_null (pc' := 183) day182 rfl ?_
  exact retA day183 rfl rfl rfl (by decide) (by decide) ⟨t', rfl, K, Hw⟩
set_option maxRecDepth 65536 in
set_option maxHeartbeats 40000000 in
theorem rm_bdk0 (l : Launch) (Z : State) (a0 : Array Value) (hw : ∀ d ∈ tables_1, d.before a0 Z = true) (hEL : EW Z a0 []) (n0 : Nat) (a b : Addr) (s : Int32) (h : Heap)  (hC : Caches Z) (Ha : BI Z h a 0 []) (Hb : BI Z h b 1 [1])  :
    Met l true Z [] n0 (⟨"java/math/BigInteger", "divideKnuth", "(Ljava/math/BigInteger;)Ljava/math/BigInteger;"⟩ : MethodName) jdk_2097_method_62_code 5 (some (.object "java/math/BigInteger")) ({ frames := 4, cells := 6, slots := 18, locals := 90 } : Room) [] #[(.ref a), (.ref b)] [] h (fun v h' => ∃ g : Addr, v = some (.ref g) ∧ Ext h h' ∧ BI Z h' g 0 []) := by
  refine Met.of_body (a0 := a0) (L0 := #[.val (.ref a), .val (.ref b), .unset, .unset, .unset]) (plainFor_of_name (by first | (simp [plainName, overriddenIn]; done) | decide +kernel)) (fun m => by first | rfl | (simp [entryFrame, mkF, argsToLocals, Value.category]; done)) hw hEL (by decide) ?_
  have K : Keep h h [] := Keep.refl _ _
  obtain ⟨Ea, Sa, ta, ka, Ma, Aa⟩ := id Ha
  have Aa : Arv Z h ta ka .int (0 : Int32) [] (.int (0 : Int32)) := Aa
  obtain ⟨Eb, Sb, tb, kb, Mb, Ab⟩ := id Hb
  have Ab : Arv Z h tb kb .int (1 : Int32) [(.int (1 : Int32))] (.int (0 : Int32)) := Ab
  refine new (i := 41) (i2 := 42) (i3 := 43) (pc' := 3) daz0 rfl rfl rfl (by decide) (by decide) rfl fun h415 a416 g417 E418 A419 D420 => ?_
  have sz_a416 : h.size ≤ a416 := by rw [g417]; exact K.1
  replace K := K.ext E418
  have F_offset_a416 : Fld Z h415 a416 "java/math/MutableBigInteger" "offset" "I" (.int (0 : Int32)) := D420 (Or.inl (hw _ (List.mem_of_getElem? (i := 50) rfl))) (ty := .int) (by decide)
  have F_intLen_a416 : Fld Z h415 a416 "java/math/MutableBigInteger" "intLen" "I" (.int (0 : Int32)) := D420 (Or.inl (hw _ (List.mem_of_getElem? (i := 54) rfl))) (ty := .int) (by decide)
  have F_value_a416 : Fld Z h415 a416 "java/math/MutableBigInteger" "value" "[I" .null := D420 (Or.inl (hw _ (List.mem_of_getElem? (i := 69) rfl))) (ty := (.array .int)) (by decide)
  refine dup (pc' := 4) daz3 rfl rfl ?_
  have lt_q := A419.lt
  refine call (i := 78) (i2 := 43) (Wd := 1) (pc' := 7) (kInit (i := 143) (i2 := 77) (i4 := 78) (a := a416) (argsL := []) (S' := [(.ref a416)]) (Wd := 1) daz4 rfl rfl rfl rfl (by decide) rfl pd_0 rfl rfl (Nat.le_of_ble_eq_true rfl)) (rm_mb0 l Z a0 hw hEL n0 a416 _ A419 F_value_a416 F_offset_a416 F_intLen_a416) rfl rfl (by simp) (by decide) (by decide) (by decide) (by decide) rfl fun v_ h421 P422 sz423 => ?_
  obtain ⟨tq, rfl, Kq, htq, Hq⟩ := P422
  have sz_tq : h.size ≤ tq := Nat.le_trans K.1 htq
  have ne_a416_tq : a416 ≠ tq := Nat.ne_of_lt (Nat.lt_of_lt_of_le A419.lt htq)
  replace K := K.trans Kq (allS (Or.inr sz_a416) all0)
  refine fsz fun Fz => ?_
  have nb_q : n0 ≤ tq := Nat.le_trans (Fz a416 (by simp)).1 (Nat.le_trans (Nat.le_of_lt lt_q) htq)
  refine adopt rfl nb_q Hq.ltA ?_
  refine at' (ce' := 2) (sl' := 4) (pc' := 7) (S' := [(.ref a416)]) rfl rfl rfl rfl rfl ?_
  refine astoreN (pc' := 8) (L' := #[.val (.ref a), .val (.ref b), .val (.ref a416), .unset, .unset]) daz7 rfl rfl rfl ?_
  refine new (i := 41) (i2 := 42) (i3 := 43) (pc' := 11) daz8 rfl rfl rfl (by decide) (by decide) rfl fun h424 a425 g426 E427 A428 D429 => ?_
  have sz_a425 : h.size ≤ a425 := by rw [g426]; exact K.1
  have ne_a416_a425 : a416 ≠ a425 := Nat.ne_of_lt (by rw [g426]; exact Hq.lt)
  have ne_tq_a425 : tq ≠ a425 := Nat.ne_of_lt (by rw [g426]; exact Hq.ltA)
  replace K := K.ext E427
  replace Hq := Hq.ext E427
  have F_offset_a425 : Fld Z h424 a425 "java/math/MutableBigInteger" "offset" "I" (.int (0 : Int32)) := D429 (Or.inl (hw _ (List.mem_of_getElem? (i := 50) rfl))) (ty := .int) (by decide)
  have F_intLen_a425 : Fld Z h424 a425 "java/math/MutableBigInteger" "intLen" "I" (.int (0 : Int32)) := D429 (Or.inl (hw _ (List.mem_of_getElem? (i := 54) rfl))) (ty := .int) (by decide)
  have F_value_a425 : Fld Z h424 a425 "java/math/MutableBigInteger" "value" "[I" .null := D429 (Or.inl (hw _ (List.mem_of_getElem? (i := 69) rfl))) (ty := (.array .int)) (by decide)
  refine dup (pc' := 12) daz11 rfl rfl ?_
  have X := keepExt K
  refine aloadN (pc' := 13) daz12 rfl rfl rfl ?_
  refine getfield (i := 131) (pc' := 16) daz13 rfl (Ma.ext X) rfl ?_
  have lt_m3 := A428.lt
  refine call (i := 146) (i2 := 43) (Wd := 1) (pc' := 19) (kInit (i := 144) (i2 := 145) (i4 := 146) (a := a425) (argsL := [(.ref ta)]) (S' := [(.ref a425)]) (Wd := 1) daz16 rfl rfl rfl rfl (by decide) rfl pd_14 rfl rfl (Nat.le_of_ble_eq_true rfl)) (rm_mbA0 l Z a0 hw hEL n0 a425 ta ka _ A428 F_value_a425 F_offset_a425 F_intLen_a425 (Aa.ext X)) rfl rfl (by simp) (by decide) (by decide) (by decide) (by decide) rfl fun v_ h430 P431 sz432 => ?_
  obtain ⟨rfl, K3, H3⟩ := P431
  replace K := K.trans K3 (allS (Or.inr sz_a425) all0)
  replace Hq := Hq.keep K3 (ninS ne_a416_a425 nin0) (ninS ne_tq_a425 nin0)
  refine at' (ce' := 3) (sl' := 7) (pc' := 19) (S' := [(.ref a425)]) rfl rfl rfl rfl rfl ?_
  refine astoreN (pc' := 20) (L' := #[.val (.ref a), .val (.ref b), .val (.ref a416), .val (.ref a425), .unset]) daz19 rfl rfl rfl ?_
  refine new (i := 41) (i2 := 42) (i3 := 43) (pc' := 23) daz20 rfl rfl rfl (by decide) (by decide) rfl fun h433 a434 g435 E436 A437 D438 => ?_
  have sz_a434 : h.size ≤ a434 := by rw [g435]; exact K.1
  have ne_a416_a434 : a416 ≠ a434 := Nat.ne_of_lt (by rw [g435]; exact Hq.lt)
  have ne_tq_a434 : tq ≠ a434 := Nat.ne_of_lt (by rw [g435]; exact Hq.ltA)
  have ne_a425_a434 : a425 ≠ a434 := Nat.ne_of_lt (by rw [g435]; exact H3.lt)
  have ne_ta_a434 : ta ≠ a434 := Nat.ne_of_lt (by rw [g435]; exact H3.ltA)
  replace K := K.ext E436
  replace Hq := Hq.ext E436
  replace H3 := H3.ext E436
  have F_offset_a434 : Fld Z h433 a434 "java/math/MutableBigInteger" "offset" "I" (.int (0 : Int32)) := D438 (Or.inl (hw _ (List.mem_of_getElem? (i := 50) rfl))) (ty := .int) (by decide)
  have F_intLen_a434 : Fld Z h433 a434 "java/math/MutableBigInteger" "intLen" "I" (.int (0 : Int32)) := D438 (Or.inl (hw _ (List.mem_of_getElem? (i := 54) rfl))) (ty := .int) (by decide)
  have F_value_a434 : Fld Z h433 a434 "java/math/MutableBigInteger" "value" "[I" .null := D438 (Or.inl (hw _ (List.mem_of_getElem? (i := 69) rfl))) (ty := (.array .int)) (by decide)
  refine dup (pc' := 24) daz23 rfl rfl ?_
  have X := keepExt K
  refine aloadN (pc' := 25) daz24 rfl rfl rfl ?_
  refine getfield (i := 131) (pc' := 28) daz25 rfl (Mb.ext X) rfl ?_
  have lt_m4 := A437.lt
  refine call (i := 146) (i2 := 43) (Wd := 1) (pc' := 31) (kInit (i := 144) (i2 := 145) (i4 := 146) (a := a434) (argsL := [(.ref tb)]) (S' := [(.ref a434)]) (Wd := 1) daz28 rfl rfl rfl rfl (by decide) rfl pd_14 rfl rfl (Nat.le_of_ble_eq_true rfl)) (rm_mbA1 l Z a0 hw hEL n0 a434 tb kb 1 _ A437 F_value_a434 F_offset_a434 F_intLen_a434 (Ab.ext X)) rfl rfl (by simp) (by decide) (by decide) (by decide) (by decide) rfl fun v_ h439 P440 sz441 => ?_
  obtain ⟨rfl, K4, H4⟩ := P440
  replace K := K.trans K4 (allS (Or.inr sz_a434) all0)
  replace Hq := Hq.keep K4 (ninS ne_a416_a434 nin0) (ninS ne_tq_a434 nin0)
  replace H3 := H3.keep K4 (ninS ne_a425_a434 nin0) (ninS ne_ta_a434 nin0)
  refine at' (ce' := 4) (sl' := 10) (pc' := 31) (S' := [(.ref a434)]) rfl rfl rfl rfl rfl ?_
  refine astore (pc' := 33) (L' := #[.val (.ref a), .val (.ref b), .val (.ref a416), .val (.ref a425), .val (.ref a434)]) daz31 rfl rfl rfl ?_
  refine aloadN (pc' := 34) daz33 rfl rfl rfl ?_
  refine aload (pc' := 36) daz34 rfl rfl rfl ?_
  refine aloadN (pc' := 37) daz36 rfl rfl rfl ?_
  refine iconst (pc' := 38) (v := (0 : Int32)) daz37 rfl rfl ?_
  have na : ta ≠ tq := Nat.ne_of_lt (Nat.lt_of_lt_of_le Aa.lt sz_tq)
  have nb : tb ≠ tq := Nat.ne_of_lt (Nat.lt_of_lt_of_le Ab.lt sz_tq)
  refine call (i := 151) (i2 := 43) (Wd := 0) (pc' := 41) (kVirt (i := 147) (i2 := 148) (i3 := 150) (i4 := 149) (C := "java/math/MutableBigInteger") (a := a425) (argsL := [(.ref a434), (.ref a416), (.int (0 : Int32))]) (S' := []) (Wd := 0) daz38 rfl rfl rfl rfl (H3.1) (by decide) rfl pd_15 rfl rfl (Nat.le_of_ble_eq_true rfl)) (rm_dk0 l Z a0 hw hEL n0 a425 ta a434 tb a416 tq _ H3 H4 Hq (Ne.symm ne_a416_a425) na (Ne.symm ne_a416_a434) nb) rfl rfl (by simp) (by decide) (by decide) (by decide) (by decide) rfl fun v_ h442 P443 sz444 => ?_
  obtain ⟨t', rfl, Kd, Hd⟩ := P443
  replace K := K.trans Kd (allS (Or.inr sz_a416) (allS (Or.inr sz_tq) all0))
  refine at' (ce' := 5) (sl' := 12) (pc' := 41) (S' := [.null]) rfl rfl rfl rfl rfl ?_
  have X := keepExt K
  refine Ow.pop (pc' := 42) daz41 rfl rfl ?_
  refine aloadN (pc' := 43) daz42 rfl rfl rfl ?_
  refine aloadN (pc' := 44) daz43 rfl rfl rfl ?_
  refine getfield (i := 34) (pc' := 47) daz44 rfl (Sa.ext X) rfl ?_
  refine aloadN (pc' := 48) daz47 rfl rfl rfl ?_
  refine getfield (i := 34) (pc' := 51) daz48 rfl (Sb.ext X) rfl ?_
  refine imul (pc' := 52) daz51 rfl ?_
  rw [show ((0 : Int32) * (1 : Int32)) = (0 : Int32) from by decide]
  refine call (i := 112) (i2 := 43) (Wd := 0) (pc' := 55) (kVirt (i := 108) (i2 := 109) (i3 := 111) (i4 := 110) (C := "java/math/MutableBigInteger") (a := a416) (argsL := [(.int (0 : Int32))]) (S' := []) (Wd := 0) daz52 rfl rfl rfl rfl (Hd.1) (by decide) rfl pd_12 rfl rfl (Nat.le_of_ble_eq_true rfl)) (rm_tb0 l Z a0 hw hEL n0 a416 t' 0 _ hC Hd) rfl rfl (by simp) (by decide) (by decide) (by decide) (by decide) rfl fun v_ h445 P446 sz447 => ?_
  obtain ⟨g, rfl, X9, B9⟩ := P446
  replace K := K.ext X9
  refine at' (ce' := 6) (sl' := 18) (pc' := 55) (S' := [(.ref g)]) rfl rfl rfl rfl rfl ?_
  exact retA daz55 rfl rfl rfl (by decide) (by decide) ⟨g, rfl, keepExt K, B9⟩
set_option maxRecDepth 65536 in
set_option maxHeartbeats 40000000 in
theorem rm_bdk1 (l : Launch) (Z : State) (a0 : Array Value) (hw : ∀ d ∈ tables_1, d.before a0 Z = true) (hEL : EW Z a0 []) (n0 : Nat) (a b : Addr) (s : Int32) (x : Int32) (h : Heap)  (hC : Caches Z) (Ha : BI Z h a s [x]) (Hb : BI Z h b 1 [1]) (hs : ¬ s = 0) (hx : ¬ x = 0) :
    Met l true Z [] n0 (⟨"java/math/BigInteger", "divideKnuth", "(Ljava/math/BigInteger;)Ljava/math/BigInteger;"⟩ : MethodName) jdk_2097_method_62_code 5 (some (.object "java/math/BigInteger")) ({ frames := 4, cells := 6, slots := 18, locals := 90 } : Room) [] #[(.ref a), (.ref b)] [] h (fun v h' => ∃ g : Addr, v = some (.ref g) ∧ Ext h h' ∧ BI Z h' g s [x]) := by
  refine Met.of_body (a0 := a0) (L0 := #[.val (.ref a), .val (.ref b), .unset, .unset, .unset]) (plainFor_of_name (by first | (simp [plainName, overriddenIn]; done) | decide +kernel)) (fun m => by first | rfl | (simp [entryFrame, mkF, argsToLocals, Value.category]; done)) hw hEL (by decide) ?_
  have K : Keep h h [] := Keep.refl _ _
  obtain ⟨Ea, Sa, ta, ka, Ma, Aa⟩ := id Ha
  have Aa : Arv Z h ta ka .int (1 : Int32) [(.int x)] (.int (0 : Int32)) := Aa
  obtain ⟨Eb, Sb, tb, kb, Mb, Ab⟩ := id Hb
  have Ab : Arv Z h tb kb .int (1 : Int32) [(.int (1 : Int32))] (.int (0 : Int32)) := Ab
  refine new (i := 41) (i2 := 42) (i3 := 43) (pc' := 3) daz0 rfl rfl rfl (by decide) (by decide) rfl fun h448 a449 g450 E451 A452 D453 => ?_
  have sz_a449 : h.size ≤ a449 := by rw [g450]; exact K.1
  replace K := K.ext E451
  have F_offset_a449 : Fld Z h448 a449 "java/math/MutableBigInteger" "offset" "I" (.int (0 : Int32)) := D453 (Or.inl (hw _ (List.mem_of_getElem? (i := 50) rfl))) (ty := .int) (by decide)
  have F_intLen_a449 : Fld Z h448 a449 "java/math/MutableBigInteger" "intLen" "I" (.int (0 : Int32)) := D453 (Or.inl (hw _ (List.mem_of_getElem? (i := 54) rfl))) (ty := .int) (by decide)
  have F_value_a449 : Fld Z h448 a449 "java/math/MutableBigInteger" "value" "[I" .null := D453 (Or.inl (hw _ (List.mem_of_getElem? (i := 69) rfl))) (ty := (.array .int)) (by decide)
  refine dup (pc' := 4) daz3 rfl rfl ?_
  have lt_q := A452.lt
  refine call (i := 78) (i2 := 43) (Wd := 1) (pc' := 7) (kInit (i := 143) (i2 := 77) (i4 := 78) (a := a449) (argsL := []) (S' := [(.ref a449)]) (Wd := 1) daz4 rfl rfl rfl rfl (by decide) rfl pd_0 rfl rfl (Nat.le_of_ble_eq_true rfl)) (rm_mb0 l Z a0 hw hEL n0 a449 _ A452 F_value_a449 F_offset_a449 F_intLen_a449) rfl rfl (by simp) (by decide) (by decide) (by decide) (by decide) rfl fun v_ h454 P455 sz456 => ?_
  obtain ⟨tq, rfl, Kq, htq, Hq⟩ := P455
  have sz_tq : h.size ≤ tq := Nat.le_trans K.1 htq
  have ne_a449_tq : a449 ≠ tq := Nat.ne_of_lt (Nat.lt_of_lt_of_le A452.lt htq)
  replace K := K.trans Kq (allS (Or.inr sz_a449) all0)
  refine fsz fun Fz => ?_
  have nb_q : n0 ≤ tq := Nat.le_trans (Fz a449 (by simp)).1 (Nat.le_trans (Nat.le_of_lt lt_q) htq)
  refine adopt rfl nb_q Hq.ltA ?_
  refine at' (ce' := 2) (sl' := 4) (pc' := 7) (S' := [(.ref a449)]) rfl rfl rfl rfl rfl ?_
  refine astoreN (pc' := 8) (L' := #[.val (.ref a), .val (.ref b), .val (.ref a449), .unset, .unset]) daz7 rfl rfl rfl ?_
  refine new (i := 41) (i2 := 42) (i3 := 43) (pc' := 11) daz8 rfl rfl rfl (by decide) (by decide) rfl fun h457 a458 g459 E460 A461 D462 => ?_
  have sz_a458 : h.size ≤ a458 := by rw [g459]; exact K.1
  have ne_a449_a458 : a449 ≠ a458 := Nat.ne_of_lt (by rw [g459]; exact Hq.lt)
  have ne_tq_a458 : tq ≠ a458 := Nat.ne_of_lt (by rw [g459]; exact Hq.ltA)
  replace K := K.ext E460
  replace Hq := Hq.ext E460
  have F_offset_a458 : Fld Z h457 a458 "java/math/MutableBigInteger" "offset" "I" (.int (0 : Int32)) := D462 (Or.inl (hw _ (List.mem_of_getElem? (i := 50) rfl))) (ty := .int) (by decide)
  have F_intLen_a458 : Fld Z h457 a458 "java/math/MutableBigInteger" "intLen" "I" (.int (0 : Int32)) := D462 (Or.inl (hw _ (List.mem_of_getElem? (i := 54) rfl))) (ty := .int) (by decide)
  have F_value_a458 : Fld Z h457 a458 "java/math/MutableBigInteger" "value" "[I" .null := D462 (Or.inl (hw _ (List.mem_of_getElem? (i := 69) rfl))) (ty := (.array .int)) (by decide)
  refine dup (pc' := 12) daz11 rfl rfl ?_
  have X := keepExt K
  refine aloadN (pc' := 13) daz12 rfl rfl rfl ?_
  refine getfield (i := 131) (pc' := 16) daz13 rfl (Ma.ext X) rfl ?_
  have lt_m3 := A461.lt
  refine call (i := 146) (i2 := 43) (Wd := 1) (pc' := 19) (kInit (i := 144) (i2 := 145) (i4 := 146) (a := a458) (argsL := [(.ref ta)]) (S' := [(.ref a458)]) (Wd := 1) daz16 rfl rfl rfl rfl (by decide) rfl pd_14 rfl rfl (Nat.le_of_ble_eq_true rfl)) (rm_mbA1 l Z a0 hw hEL n0 a458 ta ka x _ A461 F_value_a458 F_offset_a458 F_intLen_a458 (Aa.ext X)) rfl rfl (by simp) (by decide) (by decide) (by decide) (by decide) rfl fun v_ h463 P464 sz465 => ?_
  obtain ⟨rfl, K3, H3⟩ := P464
  replace K := K.trans K3 (allS (Or.inr sz_a458) all0)
  replace Hq := Hq.keep K3 (ninS ne_a449_a458 nin0) (ninS ne_tq_a458 nin0)
  refine at' (ce' := 3) (sl' := 7) (pc' := 19) (S' := [(.ref a458)]) rfl rfl rfl rfl rfl ?_
  refine astoreN (pc' := 20) (L' := #[.val (.ref a), .val (.ref b), .val (.ref a449), .val (.ref a458), .unset]) daz19 rfl rfl rfl ?_
  refine new (i := 41) (i2 := 42) (i3 := 43) (pc' := 23) daz20 rfl rfl rfl (by decide) (by decide) rfl fun h466 a467 g468 E469 A470 D471 => ?_
  have sz_a467 : h.size ≤ a467 := by rw [g468]; exact K.1
  have ne_a449_a467 : a449 ≠ a467 := Nat.ne_of_lt (by rw [g468]; exact Hq.lt)
  have ne_tq_a467 : tq ≠ a467 := Nat.ne_of_lt (by rw [g468]; exact Hq.ltA)
  have ne_a458_a467 : a458 ≠ a467 := Nat.ne_of_lt (by rw [g468]; exact H3.lt)
  have ne_ta_a467 : ta ≠ a467 := Nat.ne_of_lt (by rw [g468]; exact H3.ltA)
  replace K := K.ext E469
  replace Hq := Hq.ext E469
  replace H3 := H3.ext E469
  have F_offset_a467 : Fld Z h466 a467 "java/math/MutableBigInteger" "offset" "I" (.int (0 : Int32)) := D471 (Or.inl (hw _ (List.mem_of_getElem? (i := 50) rfl))) (ty := .int) (by decide)
  have F_intLen_a467 : Fld Z h466 a467 "java/math/MutableBigInteger" "intLen" "I" (.int (0 : Int32)) := D471 (Or.inl (hw _ (List.mem_of_getElem? (i := 54) rfl))) (ty := .int) (by decide)
  have F_value_a467 : Fld Z h466 a467 "java/math/MutableBigInteger" "value" "[I" .null := D471 (Or.inl (hw _ (List.mem_of_getElem? (i := 69) rfl))) (ty := (.array .int)) (by decide)
  refine dup (pc' := 24) daz23 rfl rfl ?_
  have X := keepExt K
  refine aloadN (pc' := 25) daz24 rfl rfl rfl ?_
  refine getfield (i := 131) (pc' := 28) daz25 rfl (Mb.ext X) rfl ?_
  have lt_m4 := A470.lt
  refine call (i := 146) (i2 := 43) (Wd := 1) (pc' := 31) (kInit (i := 144) (i2 := 145) (i4 := 146) (a := a467) (argsL := [(.ref tb)]) (S' := [(.ref a467)]) (Wd := 1) daz28 rfl rfl rfl rfl (by decide) rfl pd_14 rfl rfl (Nat.le_of_ble_eq_true rfl)) (rm_mbA1 l Z a0 hw hEL n0 a467 tb kb 1 _ A470 F_value_a467 F_offset_a467 F_intLen_a467 (Ab.ext X)) rfl rfl (by simp) (by decide) (by decide) (by decide) (by decide) rfl fun v_ h472 P473 sz474 => ?_
  obtain ⟨rfl, K4, H4⟩ := P473
  replace K := K.trans K4 (allS (Or.inr sz_a467) all0)
  replace Hq := Hq.keep K4 (ninS ne_a449_a467 nin0) (ninS ne_tq_a467 nin0)
  replace H3 := H3.keep K4 (ninS ne_a458_a467 nin0) (ninS ne_ta_a467 nin0)
  refine at' (ce' := 4) (sl' := 10) (pc' := 31) (S' := [(.ref a467)]) rfl rfl rfl rfl rfl ?_
  refine astore (pc' := 33) (L' := #[.val (.ref a), .val (.ref b), .val (.ref a449), .val (.ref a458), .val (.ref a467)]) daz31 rfl rfl rfl ?_
  refine aloadN (pc' := 34) daz33 rfl rfl rfl ?_
  refine aload (pc' := 36) daz34 rfl rfl rfl ?_
  refine aloadN (pc' := 37) daz36 rfl rfl rfl ?_
  refine iconst (pc' := 38) (v := (0 : Int32)) daz37 rfl rfl ?_
  have na : ta ≠ tq := Nat.ne_of_lt (Nat.lt_of_lt_of_le Aa.lt sz_tq)
  have nb : tb ≠ tq := Nat.ne_of_lt (Nat.lt_of_lt_of_le Ab.lt sz_tq)
  refine call (i := 151) (i2 := 43) (Wd := 0) (pc' := 41) (kVirt (i := 147) (i2 := 148) (i3 := 150) (i4 := 149) (C := "java/math/MutableBigInteger") (a := a458) (argsL := [(.ref a467), (.ref a449), (.int (0 : Int32))]) (S' := []) (Wd := 0) daz38 rfl rfl rfl rfl (H3.1) (by decide) rfl pd_15 rfl rfl (Nat.le_of_ble_eq_true rfl)) (rm_dk1 l Z a0 hw hEL n0 a458 ta a467 tb a449 tq x _ H3 H4 Hq (Ne.symm ne_a449_a458) na (Ne.symm ne_a449_a467) nb hx) rfl rfl (by simp) (by decide) (by decide) (by decide) (by decide) rfl fun v_ h475 P476 sz477 => ?_
  obtain ⟨t', rfl, Kd, Hd⟩ := P476
  replace K := K.trans Kd (allS (Or.inr sz_a449) (allS (Or.inr sz_tq) all0))
  refine at' (ce' := 5) (sl' := 12) (pc' := 41) (S' := [.null]) rfl rfl rfl rfl rfl ?_
  have X := keepExt K
  refine Ow.pop (pc' := 42) daz41 rfl rfl ?_
  refine aloadN (pc' := 43) daz42 rfl rfl rfl ?_
  refine aloadN (pc' := 44) daz43 rfl rfl rfl ?_
  refine getfield (i := 34) (pc' := 47) daz44 rfl (Sa.ext X) rfl ?_
  refine aloadN (pc' := 48) daz47 rfl rfl rfl ?_
  refine getfield (i := 34) (pc' := 51) daz48 rfl (Sb.ext X) rfl ?_
  refine imul (pc' := 52) daz51 rfl ?_
  rw [show (s * (1 : Int32)) = s from Int32.mul_one _]
  refine call (i := 112) (i2 := 43) (Wd := 0) (pc' := 55) (kVirt (i := 108) (i2 := 109) (i3 := 111) (i4 := 110) (C := "java/math/MutableBigInteger") (a := a449) (argsL := [(.int s)]) (S' := []) (Wd := 0) daz52 rfl rfl rfl rfl (Hd.1) (by decide) rfl pd_12 rfl rfl (Nat.le_of_ble_eq_true rfl)) (rm_tb1 l Z a0 hw hEL n0 a449 t' s x _ Hd hs) rfl rfl (by simp) (by decide) (by decide) (by decide) (by decide) rfl fun v_ h478 P479 sz480 => ?_
  obtain ⟨g, rfl, X9, B9⟩ := P479
  replace K := K.ext X9
  refine at' (ce' := 6) (sl' := 18) (pc' := 55) (S' := [(.ref g)]) rfl rfl rfl rfl rfl ?_
  exact retA daz55 rfl rfl rfl (by decide) (by decide) ⟨g, rfl, keepExt K, B9⟩
set_option maxRecDepth 65536 in
set_option maxHeartbeats 40000000 in
theorem rm_bdk2 (l : Launch) (Z : State) (a0 : Array Value) (hw : ∀ d ∈ tables_1, d.before a0 Z = true) (hEL : EW Z a0 []) (n0 : Nat) (a b : Addr) (s : Int32) (x y : Int32) (h : Heap)  (hC : Caches Z) (Ha : BI Z h a s [x, y]) (Hb : BI Z h b 1 [1]) (hs : ¬ s = 0) (hx : ¬ x = 0) :
    Met l true Z [] n0 (⟨"java/math/BigInteger", "divideKnuth", "(Ljava/math/BigInteger;)Ljava/math/BigInteger;"⟩ : MethodName) jdk_2097_method_62_code 5 (some (.object "java/math/BigInteger")) ({ frames := 4, cells := 6, slots := 18, locals := 90 } : Room) [] #[(.ref a), (.ref b)] [] h (fun v h' => ∃ g : Addr, v = some (.ref g) ∧ Ext h h' ∧ BI Z h' g s [x, y]) := by
  refine Met.of_body (a0 := a0) (L0 := #[.val (.ref a), .val (.ref b), .unset, .unset, .unset]) (plainFor_of_name (by first | (simp [plainName, overriddenIn]; done) | decide +kernel)) (fun m => by first | rfl | (simp [entryFrame, mkF, argsToLocals, Value.category]; done)) hw hEL (by decide) ?_
  have K : Keep h h [] := Keep.refl _ _
  obtain ⟨Ea, Sa, ta, ka, Ma, Aa⟩ := id Ha
  have Aa : Arv Z h ta ka .int (2 : Int32) [(.int x), (.int y)] (.int (0 : Int32)) := Aa
  obtain ⟨Eb, Sb, tb, kb, Mb, Ab⟩ := id Hb
  have Ab : Arv Z h tb kb .int (1 : Int32) [(.int (1 : Int32))] (.int (0 : Int32)) := Ab
  refine new (i := 41) (i2 := 42) (i3 := 43) (pc' := 3) daz0 rfl rfl rfl (by decide) (by decide) rfl fun h481 a482 g483 E484 A485 D486 => ?_
  have sz_a482 : h.size ≤ a482 := by rw [g483]; exact K.1
  replace K := K.ext E484
  have F_offset_a482 : Fld Z h481 a482 "java/math/MutableBigInteger" "offset" "I" (.int (0 : Int32)) := D486 (Or.inl (hw _ (List.mem_of_getElem? (i := 50) rfl))) (ty := .int) (by decide)
  have F_intLen_a482 : Fld Z h481 a482 "java/math/MutableBigInteger" "intLen" "I" (.int (0 : Int32)) := D486 (Or.inl (hw _ (List.mem_of_getElem? (i := 54) rfl))) (ty := .int) (by decide)
  have F_value_a482 : Fld Z h481 a482 "java/math/MutableBigInteger" "value" "[I" .null := D486 (Or.inl (hw _ (List.mem_of_getElem? (i := 69) rfl))) (ty := (.array .int)) (by decide)
  refine dup (pc' := 4) daz3 rfl rfl ?_
  have lt_q := A485.lt
  refine call (i := 78) (i2 := 43) (Wd := 1) (pc' := 7) (kInit (i := 143) (i2 := 77) (i4 := 78) (a := a482) (argsL := []) (S' := [(.ref a482)]) (Wd := 1) daz4 rfl rfl rfl rfl (by decide) rfl pd_0 rfl rfl (Nat.le_of_ble_eq_true rfl)) (rm_mb0 l Z a0 hw hEL n0 a482 _ A485 F_value_a482 F_offset_a482 F_intLen_a482) rfl rfl (by simp) (by decide) (by decide) (by decide) (by decide) rfl fun v_ h487 P488 sz489 => ?_
  obtain ⟨tq, rfl, Kq, htq, Hq⟩ := P488
  have sz_tq : h.size ≤ tq := Nat.le_trans K.1 htq
  have ne_a482_tq : a482 ≠ tq := Nat.ne_of_lt (Nat.lt_of_lt_of_le A485.lt htq)
  replace K := K.trans Kq (allS (Or.inr sz_a482) all0)
  refine fsz fun Fz => ?_
  have nb_q : n0 ≤ tq := Nat.le_trans (Fz a482 (by simp)).1 (Nat.le_trans (Nat.le_of_lt lt_q) htq)
  refine adopt rfl nb_q Hq.ltA ?_
  refine at' (ce' := 2) (sl' := 4) (pc' := 7) (S' := [(.ref a482)]) rfl rfl rfl rfl rfl ?_
  refine astoreN (pc' := 8) (L' := #[.val (.ref a), .val (.ref b), .val (.ref a482), .unset, .unset]) daz7 rfl rfl rfl ?_
  refine new (i := 41) (i2 := 42) (i3 := 43) (pc' := 11) daz8 rfl rfl rfl (by decide) (by decide) rfl fun h490 a491 g492 E493 A494 D495 => ?_
  have sz_a491 : h.size ≤ a491 := by rw [g492]; exact K.1
  have ne_a482_a491 : a482 ≠ a491 := Nat.ne_of_lt (by rw [g492]; exact Hq.lt)
  have ne_tq_a491 : tq ≠ a491 := Nat.ne_of_lt (by rw [g492]; exact Hq.ltA)
  replace K := K.ext E493
  replace Hq := Hq.ext E493
  have F_offset_a491 : Fld Z h490 a491 "java/math/MutableBigInteger" "offset" "I" (.int (0 : Int32)) := D495 (Or.inl (hw _ (List.mem_of_getElem? (i := 50) rfl))) (ty := .int) (by decide)
  have F_intLen_a491 : Fld Z h490 a491 "java/math/MutableBigInteger" "intLen" "I" (.int (0 : Int32)) := D495 (Or.inl (hw _ (List.mem_of_getElem? (i := 54) rfl))) (ty := .int) (by decide)
  have F_value_a491 : Fld Z h490 a491 "java/math/MutableBigInteger" "value" "[I" .null := D495 (Or.inl (hw _ (List.mem_of_getElem? (i := 69) rfl))) (ty := (.array .int)) (by decide)
  refine dup (pc' := 12) daz11 rfl rfl ?_
  have X := keepExt K
  refine aloadN (pc' := 13) daz12 rfl rfl rfl ?_
  refine getfield (i := 131) (pc' := 16) daz13 rfl (Ma.ext X) rfl ?_
  have lt_m3 := A494.lt
  refine call (i := 146) (i2 := 43) (Wd := 1) (pc' := 19) (kInit (i := 144) (i2 := 145) (i4 := 146) (a := a491) (argsL := [(.ref ta)]) (S' := [(.ref a491)]) (Wd := 1) daz16 rfl rfl rfl rfl (by decide) rfl pd_14 rfl rfl (Nat.le_of_ble_eq_true rfl)) (rm_mbA2 l Z a0 hw hEL n0 a491 ta ka x y _ A494 F_value_a491 F_offset_a491 F_intLen_a491 (Aa.ext X)) rfl rfl (by simp) (by decide) (by decide) (by decide) (by decide) rfl fun v_ h496 P497 sz498 => ?_
  obtain ⟨rfl, K3, H3⟩ := P497
  replace K := K.trans K3 (allS (Or.inr sz_a491) all0)
  replace Hq := Hq.keep K3 (ninS ne_a482_a491 nin0) (ninS ne_tq_a491 nin0)
  refine at' (ce' := 3) (sl' := 7) (pc' := 19) (S' := [(.ref a491)]) rfl rfl rfl rfl rfl ?_
  refine astoreN (pc' := 20) (L' := #[.val (.ref a), .val (.ref b), .val (.ref a482), .val (.ref a491), .unset]) daz19 rfl rfl rfl ?_
  refine new (i := 41) (i2 := 42) (i3 := 43) (pc' := 23) daz20 rfl rfl rfl (by decide) (by decide) rfl fun h499 a500 g501 E502 A503 D504 => ?_
  have sz_a500 : h.size ≤ a500 := by rw [g501]; exact K.1
  have ne_a482_a500 : a482 ≠ a500 := Nat.ne_of_lt (by rw [g501]; exact Hq.lt)
  have ne_tq_a500 : tq ≠ a500 := Nat.ne_of_lt (by rw [g501]; exact Hq.ltA)
  have ne_a491_a500 : a491 ≠ a500 := Nat.ne_of_lt (by rw [g501]; exact H3.lt)
  have ne_ta_a500 : ta ≠ a500 := Nat.ne_of_lt (by rw [g501]; exact H3.ltA)
  replace K := K.ext E502
  replace Hq := Hq.ext E502
  replace H3 := H3.ext E502
  have F_offset_a500 : Fld Z h499 a500 "java/math/MutableBigInteger" "offset" "I" (.int (0 : Int32)) := D504 (Or.inl (hw _ (List.mem_of_getElem? (i := 50) rfl))) (ty := .int) (by decide)
  have F_intLen_a500 : Fld Z h499 a500 "java/math/MutableBigInteger" "intLen" "I" (.int (0 : Int32)) := D504 (Or.inl (hw _ (List.mem_of_getElem? (i := 54) rfl))) (ty := .int) (by decide)
  have F_value_a500 : Fld Z h499 a500 "java/math/MutableBigInteger" "value" "[I" .null := D504 (Or.inl (hw _ (List.mem_of_getElem? (i := 69) rfl))) (ty := (.array .int)) (by decide)
  refine dup (pc' := 24) daz23 rfl rfl ?_
  have X := keepExt K
  refine aloadN (pc' := 25) daz24 rfl rfl rfl ?_
  refine getfield (i := 131) (pc' := 28) daz25 rfl (Mb.ext X) rfl ?_
  have lt_m4 := A503.lt
  refine call (i := 146) (i2 := 43) (Wd := 1) (pc' := 31) (kInit (i := 144) (i2 := 145) (i4 := 146) (a := a500) (argsL := [(.ref tb)]) (S' := [(.ref a500)]) (Wd := 1) daz28 rfl rfl rfl rfl (by decide) rfl pd_14 rfl rfl (Nat.le_of_ble_eq_true rfl)) (rm_mbA1 l Z a0 hw hEL n0 a500 tb kb 1 _ A503 F_value_a500 F_offset_a500 F_intLen_a500 (Ab.ext X)) rfl rfl (by simp) (by decide) (by decide) (by decide) (by decide) rfl fun v_ h505 P506 sz507 => ?_
  obtain ⟨rfl, K4, H4⟩ := P506
  replace K := K.trans K4 (allS (Or.inr sz_a500) all0)
  replace Hq := Hq.keep K4 (ninS ne_a482_a500 nin0) (ninS ne_tq_a500 nin0)
  replace H3 := H3.keep K4 (ninS ne_a491_a500 nin0) (ninS ne_ta_a500 nin0)
  refine at' (ce' := 4) (sl' := 10) (pc' := 31) (S' := [(.ref a500)]) rfl rfl rfl rfl rfl ?_
  refine astore (pc' := 33) (L' := #[.val (.ref a), .val (.ref b), .val (.ref a482), .val (.ref a491), .val (.ref a500)]) daz31 rfl rfl rfl ?_
  refine aloadN (pc' := 34) daz33 rfl rfl rfl ?_
  refine aload (pc' := 36) daz34 rfl rfl rfl ?_
  refine aloadN (pc' := 37) daz36 rfl rfl rfl ?_
  refine iconst (pc' := 38) (v := (0 : Int32)) daz37 rfl rfl ?_
  have na : ta ≠ tq := Nat.ne_of_lt (Nat.lt_of_lt_of_le Aa.lt sz_tq)
  have nb : tb ≠ tq := Nat.ne_of_lt (Nat.lt_of_lt_of_le Ab.lt sz_tq)
  refine call (i := 151) (i2 := 43) (Wd := 0) (pc' := 41) (kVirt (i := 147) (i2 := 148) (i3 := 150) (i4 := 149) (C := "java/math/MutableBigInteger") (a := a491) (argsL := [(.ref a500), (.ref a482), (.int (0 : Int32))]) (S' := []) (Wd := 0) daz38 rfl rfl rfl rfl (H3.1) (by decide) rfl pd_15 rfl rfl (Nat.le_of_ble_eq_true rfl)) (rm_dk2 l Z a0 hw hEL n0 a491 ta a500 tb a482 tq x y _ H3 H4 Hq (Ne.symm ne_a482_a491) na (Ne.symm ne_a482_a500) nb hx) rfl rfl (by simp) (by decide) (by decide) (by decide) (by decide) rfl fun v_ h508 P509 sz510 => ?_
  obtain ⟨t', rfl, Kd, Hd⟩ := P509
  replace K := K.trans Kd (allS (Or.inr sz_a482) (allS (Or.inr sz_tq) all0))
  refine at' (ce' := 5) (sl' := 12) (pc' := 41) (S' := [.null]) rfl rfl rfl rfl rfl ?_
  have X := keepExt K
  refine Ow.pop (pc' := 42) daz41 rfl rfl ?_
  refine aloadN (pc' := 43) daz42 rfl rfl rfl ?_
  refine aloadN (pc' := 44) daz43 rfl rfl rfl ?_
  refine getfield (i := 34) (pc' := 47) daz44 rfl (Sa.ext X) rfl ?_
  refine aloadN (pc' := 48) daz47 rfl rfl rfl ?_
  refine getfield (i := 34) (pc' := 51) daz48 rfl (Sb.ext X) rfl ?_
  refine imul (pc' := 52) daz51 rfl ?_
  rw [show (s * (1 : Int32)) = s from Int32.mul_one _]
  refine call (i := 112) (i2 := 43) (Wd := 0) (pc' := 55) (kVirt (i := 108) (i2 := 109) (i3 := 111) (i4 := 110) (C := "java/math/MutableBigInteger") (a := a482) (argsL := [(.int s)]) (S' := []) (Wd := 0) daz52 rfl rfl rfl rfl (Hd.1) (by decide) rfl pd_12 rfl rfl (Nat.le_of_ble_eq_true rfl)) (rm_tb2 l Z a0 hw hEL n0 a482 t' s x y _ Hd hs) rfl rfl (by simp) (by decide) (by decide) (by decide) (by decide) rfl fun v_ h511 P512 sz513 => ?_
  obtain ⟨g, rfl, X9, B9⟩ := P512
  replace K := K.ext X9
  refine at' (ce' := 6) (sl' := 18) (pc' := 55) (S' := [(.ref g)]) rfl rfl rfl rfl rfl ?_
  exact retA daz55 rfl rfl rfl (by decide) (by decide) ⟨g, rfl, keepExt K, B9⟩
set_option maxRecDepth 65536 in
set_option maxHeartbeats 40000000 in
theorem rm_div0 (l : Launch) (Z : State) (a0 : Array Value) (hw : ∀ d ∈ tables_1, d.before a0 Z = true) (hEL : EW Z a0 []) (n0 : Nat) (a b : Addr) (s : Int32) (h : Heap)  (hC : Caches Z) (Ha : BI Z h a 0 []) (Hb : BI Z h b 1 [1])  :
    Met l true Z [] n0 (⟨"java/math/BigInteger", "divide", "(Ljava/math/BigInteger;)Ljava/math/BigInteger;"⟩ : MethodName) jdk_2097_method_61_code 2 (some (.object "java/math/BigInteger")) ({ frames := 5, cells := 6, slots := 18, locals := 110 } : Room) [] #[(.ref a), (.ref b)] [] h (fun v h' => ∃ g : Addr, v = some (.ref g) ∧ Ext h h' ∧ BI Z h' g 0 []) := by
  refine Met.of_body (a0 := a0) (L0 := #[.val (.ref a), .val (.ref b)]) (plainFor_of_name (by first | (simp [plainName, overriddenIn]; done) | decide +kernel)) (fun m => by first | rfl | (simp [entryFrame, mkF, argsToLocals, Value.category]; done)) hw hEL (by decide) ?_
  obtain ⟨Eb, Sb, tb, kb, Mb, Ab⟩ := id Hb
  have Ab : Arv Z h tb kb .int (1 : Int32) [(.int (1 : Int32))] (.int (0 : Int32)) := Ab
  refine aloadN (pc' := 1) dba0 rfl rfl rfl ?_
  refine getfield (i := 131) (pc' := 4) dba1 rfl Mb rfl ?_
  refine arraylength (pc' := 5) dba4 Ab rfl ?_
  refine bipush (pc' := 7) (v := (80 : Int32)) dba5 rfl rfl ?_
  refine icmpT (pc' := 26) dba7 (by decide : (1 : Int32) < (80 : Int32)) (by decide) rfl ?_
  refine aloadN (pc' := 27) dba26 rfl rfl rfl ?_
  refine aloadN (pc' := 28) dba27 rfl rfl rfl ?_
  refine call (i := 142) (i2 := 8) (Wd := 0) (pc' := 31) (kPriv (i := 138) (i2 := 139) (i3 := 32) (i4 := 142) (i5 := 140) (a := a) (argsL := [(.ref b)]) (S' := []) (Wd := 0) dba28 rfl rfl rfl rfl rfl rfl (Ha.1) (by decide) rfl pd_16 rfl rfl (Nat.le_of_ble_eq_true rfl)) (rm_bdk0 l Z a0 hw hEL n0 a b s _ hC Ha Hb) rfl rfl (by simp) (by decide) (by decide) (by decide) (by decide) rfl fun v_ h514 P515 sz516 => ?_
  obtain ⟨g, rfl, X9, B9⟩ := P515
  refine at' (ce' := 6) (sl' := 18) (pc' := 31) (S' := [(.ref g)]) rfl rfl rfl rfl rfl ?_
  exact retA dba31 rfl rfl rfl (by decide) (by decide) ⟨g, rfl, X9, B9⟩
set_option maxRecDepth 65536 in
set_option maxHeartbeats 40000000 in
theorem rm_div1 (l : Launch) (Z : State) (a0 : Array Value) (hw : ∀ d ∈ tables_1, d.before a0 Z = true) (hEL : EW Z a0 []) (n0 : Nat) (a b : Addr) (s : Int32) (x : Int32) (h : Heap)  (hC : Caches Z) (Ha : BI Z h a s [x]) (Hb : BI Z h b 1 [1]) (hs : ¬ s = 0) (hx : ¬ x = 0) :
    Met l true Z [] n0 (⟨"java/math/BigInteger", "divide", "(Ljava/math/BigInteger;)Ljava/math/BigInteger;"⟩ : MethodName) jdk_2097_method_61_code 2 (some (.object "java/math/BigInteger")) ({ frames := 5, cells := 6, slots := 18, locals := 110 } : Room) [] #[(.ref a), (.ref b)] [] h (fun v h' => ∃ g : Addr, v = some (.ref g) ∧ Ext h h' ∧ BI Z h' g s [x]) := by
  refine Met.of_body (a0 := a0) (L0 := #[.val (.ref a), .val (.ref b)]) (plainFor_of_name (by first | (simp [plainName, overriddenIn]; done) | decide +kernel)) (fun m => by first | rfl | (simp [entryFrame, mkF, argsToLocals, Value.category]; done)) hw hEL (by decide) ?_
  obtain ⟨Eb, Sb, tb, kb, Mb, Ab⟩ := id Hb
  have Ab : Arv Z h tb kb .int (1 : Int32) [(.int (1 : Int32))] (.int (0 : Int32)) := Ab
  refine aloadN (pc' := 1) dba0 rfl rfl rfl ?_
  refine getfield (i := 131) (pc' := 4) dba1 rfl Mb rfl ?_
  refine arraylength (pc' := 5) dba4 Ab rfl ?_
  refine bipush (pc' := 7) (v := (80 : Int32)) dba5 rfl rfl ?_
  refine icmpT (pc' := 26) dba7 (by decide : (1 : Int32) < (80 : Int32)) (by decide) rfl ?_
  refine aloadN (pc' := 27) dba26 rfl rfl rfl ?_
  refine aloadN (pc' := 28) dba27 rfl rfl rfl ?_
  refine call (i := 142) (i2 := 8) (Wd := 0) (pc' := 31) (kPriv (i := 138) (i2 := 139) (i3 := 32) (i4 := 142) (i5 := 140) (a := a) (argsL := [(.ref b)]) (S' := []) (Wd := 0) dba28 rfl rfl rfl rfl rfl rfl (Ha.1) (by decide) rfl pd_16 rfl rfl (Nat.le_of_ble_eq_true rfl)) (rm_bdk1 l Z a0 hw hEL n0 a b s x _ hC Ha Hb hs hx) rfl rfl (by simp) (by decide) (by decide) (by decide) (by decide) rfl fun v_ h517 P518 sz519 => ?_
  obtain ⟨g, rfl, X9, B9⟩ := P518
  refine at' (ce' := 6) (sl' := 18) (pc' := 31) (S' := [(.ref g)]) rfl rfl rfl rfl rfl ?_
  exact retA dba31 rfl rfl rfl (by decide) (by decide) ⟨g, rfl, X9, B9⟩
set_option maxRecDepth 65536 in
set_option maxHeartbeats 40000000 in
theorem rm_div2 (l : Launch) (Z : State) (a0 : Array Value) (hw : ∀ d ∈ tables_1, d.before a0 Z = true) (hEL : EW Z a0 []) (n0 : Nat) (a b : Addr) (s : Int32) (x y : Int32) (h : Heap)  (hC : Caches Z) (Ha : BI Z h a s [x, y]) (Hb : BI Z h b 1 [1]) (hs : ¬ s = 0) (hx : ¬ x = 0) :
    Met l true Z [] n0 (⟨"java/math/BigInteger", "divide", "(Ljava/math/BigInteger;)Ljava/math/BigInteger;"⟩ : MethodName) jdk_2097_method_61_code 2 (some (.object "java/math/BigInteger")) ({ frames := 5, cells := 6, slots := 18, locals := 110 } : Room) [] #[(.ref a), (.ref b)] [] h (fun v h' => ∃ g : Addr, v = some (.ref g) ∧ Ext h h' ∧ BI Z h' g s [x, y]) := by
  refine Met.of_body (a0 := a0) (L0 := #[.val (.ref a), .val (.ref b)]) (plainFor_of_name (by first | (simp [plainName, overriddenIn]; done) | decide +kernel)) (fun m => by first | rfl | (simp [entryFrame, mkF, argsToLocals, Value.category]; done)) hw hEL (by decide) ?_
  obtain ⟨Eb, Sb, tb, kb, Mb, Ab⟩ := id Hb
  have Ab : Arv Z h tb kb .int (1 : Int32) [(.int (1 : Int32))] (.int (0 : Int32)) := Ab
  refine aloadN (pc' := 1) dba0 rfl rfl rfl ?_
  refine getfield (i := 131) (pc' := 4) dba1 rfl Mb rfl ?_
  refine arraylength (pc' := 5) dba4 Ab rfl ?_
  refine bipush (pc' := 7) (v := (80 : Int32)) dba5 rfl rfl ?_
  refine icmpT (pc' := 26) dba7 (by decide : (1 : Int32) < (80 : Int32)) (by decide) rfl ?_
  refine aloadN (pc' := 27) dba26 rfl rfl rfl ?_
  refine aloadN (pc' := 28) dba27 rfl rfl rfl ?_
  refine call (i := 142) (i2 := 8) (Wd := 0) (pc' := 31) (kPriv (i := 138) (i2 := 139) (i3 := 32) (i4 := 142) (i5 := 140) (a := a) (argsL := [(.ref b)]) (S' := []) (Wd := 0) dba28 rfl rfl rfl rfl rfl rfl (Ha.1) (by decide) rfl pd_16 rfl rfl (Nat.le_of_ble_eq_true rfl)) (rm_bdk2 l Z a0 hw hEL n0 a b s x y _ hC Ha Hb hs hx) rfl rfl (by simp) (by decide) (by decide) (by decide) (by decide) rfl fun v_ h520 P521 sz522 => ?_
  obtain ⟨g, rfl, X9, B9⟩ := P521
  refine at' (ce' := 6) (sl' := 18) (pc' := 31) (S' := [(.ref g)]) rfl rfl rfl rfl rfl ?_
  exact retA dba31 rfl rfl rfl (by decide) (by decide) ⟨g, rfl, X9, B9⟩
set_option maxRecDepth 65536 in
set_option maxHeartbeats 40000000 in
theorem rm_biJ (l : Launch) (Z : State) (a0 : Array Value) (hw : ∀ d ∈ tables_1, d.before a0 Z = true) (hEL : EW Z a0 []) (n0 : Nat) (a : Addr) (n : Int64) (h : Heap) (Ea : Exa Z h a "java/math/BigInteger") (Sa : Fld Z h a "java/math/BigInteger" "signum" "I" (.int (0 : Int32))) (Ma : Fld Z h a "java/math/BigInteger" "mag" "[I" .null) (hn : ¬ n = 0) :
    Met l true Z [] n0 (⟨"java/math/BigInteger", "<init>", "(J)V"⟩ : MethodName) jdk_2097_method_30_code 4 none ({ frames := 2, cells := 1, slots := 2, locals := 30 } : Room) [] #[(.ref a), (.long n)] [a] h (fun v h' => v = none ∧ Keep h h' [a] ∧ BIc Z h' a (sgn n) (mag n)) := by
  refine Met.of_body (a0 := a0) (L0 := #[.val (.ref a), .val (.long n), .second, .unset]) (plainFor_of_name (by first | (simp [plainName, overriddenIn]; done) | decide +kernel)) (fun m => by first | rfl | (simp [entryFrame, mkF, argsToLocals, Value.category]; done)) hw hEL (by decide) ?_
  have K : Keep h h [a] := Keep.refl _ _
  refine aloadN (pc' := 1) dbb0 rfl rfl rfl ?_
  refine call (i := 129) (i2 := 128) (Wd := 0) (pc' := 4) (kInit (i := 124) (i2 := 125) (i4 := 129) (a := a) (argsL := []) (S' := []) (Wd := 0) dbb1 rfl rfl rfl rfl (by decide) rfl pd_0 rfl rfl (Nat.le_of_ble_eq_true rfl)) (rm_num l Z a0 hw hEL n0 a _) rfl rfl (by simp) (by decide) (by decide) (by decide) (by decide) rfl fun v_ h523 P524 sz525 => ?_
  obtain ⟨rfl, e526⟩ := P524
  rw [e526]
  refine at' (ce' := 0) (sl' := 0) (pc' := 4) (S' := []) rfl rfl rfl rfl rfl ?_
  refine lloadN (pc' := 5) dbb4 rfl rfl ?_
  refine lconst (pc' := 6) (v := (0 : Int64)) dbb5 rfl rfl ?_
  refine lcmp (pc' := 7) dbb6 rfl ?_
  refine ifc (pc' := 21) (pcF := 10) dbb7 (by decide) rfl rfl (fun (q0 : ¬ ((lcmpW n (0 : Int64)) < (0 : Int32))) => ?_) (fun (q0 : (lcmpW n (0 : Int64)) < (0 : Int32)) => ?_)
  · skip
    have q0 : ¬ n < 0 := fun q => q0 ((lw_lt n 0).mpr q)
    refine aloadN (pc' := 22) dbb21 rfl rfl rfl ?_
    refine iconst (pc' := 23) (v := (1 : Int32)) dbb22 rfl rfl ?_
    refine putfield (i := 34) (i2 := 35) (i3 := 114) (pc' := 26) (v' := (.int (1 : Int32))) (ty := .int) dbb23 rfl (Or.inr ⟨rfl, rfl, rfl⟩) rfl Sa Ea (by decide) rfl rfl (by simp) rfl fun h527 W528 => ?_
    replace K := K.wr W528 (Or.inl (by simp))
    replace Ea := Ea.wr W528
    replace Sa := Sa.same W528
    replace Ma := Ma.other W528 (Or.inr (slot_ne (Or.inr (hw _ (List.mem_of_getElem? (i := 52) rfl))) (Or.inr (hw _ (List.mem_of_getElem? (i := 35) rfl))) (by decide) (t := (.array .int)) (t' := .int) (by decide) (by decide)))
    refine lloadN (pc' := 27) dbb26 rfl rfl ?_
    refine bipush (pc' := 29) (v := (32 : Int32)) dbb27 rfl rfl ?_
    refine lushr (pc' := 30) dbb29 rfl ?_
    refine l2i (pc' := 31) dbb30 rfl ?_
    rw [show (((n.toUInt64 >>> ((32 : Int32) &&& 0x3f).toInt64.toUInt64).toInt64).toInt32) = (hiw n) from rfl]
    refine istoreN (pc' := 32) (L' := #[.val (.ref a), .val (.long n), .second, .val (.int (hiw n))]) dbb31 rfl rfl ?_
    refine iloadN (pc' := 33) dbb32 rfl rfl ?_
    refine ifc (pc' := 54) (pcF := 36) dbb33 (by decide) rfl rfl (fun (q1 : ¬ ((hiw n) = (0 : Int32))) => ?_) (fun (q1 : (hiw n) = (0 : Int32)) => ?_)
    · skip
      refine aloadN (pc' := 55) dbb54 rfl rfl rfl ?_
      refine iconst (pc' := 56) (v := (2 : Int32)) dbb55 rfl rfl ?_
      refine newarrayE (i := 79) (cap := 2) (ty := .int) (ad := "[I") (pc' := 58) dbb56 rfl rfl (by decide) (by decide) (by decide) (by decide) (by decide) rfl (by decide) fun hq q kq gq Eq Aq Xq => ?_
      have sz_q : h.size ≤ q := by rw [gq]; exact K.1
      have ne_a_q : a ≠ q := Nat.ne_of_lt (by rw [gq]; exact Ea.lt)
      replace K := K.ext Eq
      replace Ea := Ea.ext Eq
      replace Sa := Sa.ext Eq
      replace Ma := Ma.ext Eq
      have Aq' : Arv Z hq q kq .int (2 : Int32) [(.int (0 : Int32)), (.int (0 : Int32))] (.int (0 : Int32)) := Aq.pad (pad_rep [] _ 2)
      refine putfield (i := 131) (i2 := 52) (i3 := 114) (pc' := 61) (v' := (.ref q)) (ty := (.array .int)) dbb58 rfl (Or.inr ⟨rfl, rfl, rfl⟩) rfl Ma Ea (by decide) rfl rfl (by simp) rfl fun h529 W530 => ?_
      replace K := K.wr W530 (Or.inl (by simp))
      replace Ea := Ea.wr W530
      replace Sa := Sa.other W530 (Or.inr (slot_ne (Or.inr (hw _ (List.mem_of_getElem? (i := 35) rfl))) (Or.inr (hw _ (List.mem_of_getElem? (i := 52) rfl))) (by decide) (t := .int) (t' := (.array .int)) (by decide) (by decide)))
      replace Ma := Ma.same W530
      replace Aq' := Aq'.other W530 (Ne.symm ne_a_q)
      replace Xq := Xq.wr W530
      refine aloadN (pc' := 62) dbb61 rfl rfl rfl ?_
      refine getfield (i := 131) (pc' := 65) dbb62 rfl Ma rfl ?_
      refine iconst (pc' := 66) (v := (0 : Int32)) dbb65 rfl rfl ?_
      refine iloadN (pc' := 67) dbb66 rfl rfl ?_
      refine iastore (pc' := 68) dbb67 Aq' ⟨by decide, by decide⟩ (by simp) (Nat.le_of_ble_eq_true rfl) rfl fun h531 W532 V533 => ?_
      replace K := K.wr W532 (Or.inr sz_q)
      replace Ea := Ea.wr W532
      replace Sa := Sa.other W532 (Or.inl ne_a_q)
      replace Ma := Ma.other W532 (Or.inl ne_a_q)
      replace Xq := Xq.wr W532
      replace Aq' : Arv Z h531 q kq .int (2 : Int32) [(.int (hiw n)), (.int (0 : Int32))] (.int (0 : Int32)) := V533
      refine aloadN (pc' := 69) dbb68 rfl rfl rfl ?_
      refine getfield (i := 131) (pc' := 72) dbb69 rfl Ma rfl ?_
      refine iconst (pc' := 73) (v := (1 : Int32)) dbb72 rfl rfl ?_
      refine lloadN (pc' := 74) dbb73 rfl rfl ?_
      refine l2i (pc' := 75) dbb74 rfl ?_
      refine iastore (pc' := 76) dbb75 Aq' ⟨by decide, by decide⟩ (by simp) (Nat.le_of_ble_eq_true rfl) rfl fun h534 W535 V536 => ?_
      replace K := K.wr W535 (Or.inr sz_q)
      replace Ea := Ea.wr W535
      replace Sa := Sa.other W535 (Or.inl ne_a_q)
      replace Ma := Ma.other W535 (Or.inl ne_a_q)
      replace Xq := Xq.wr W535
      replace Aq' : Arv Z h534 q kq .int (2 : Int32) [(.int (hiw n)), (.int (n.toInt32))] (.int (0 : Int32)) := V536
      exact retV dbb76 rfl (by decide) (by decide) ⟨rfl, K, by rw [sgn_pos hn q0, mag_pos hn q0, mags_hi q1]; exact ⟨Ea, Sa, q, kq, Ma, Aq', Xq⟩⟩
    · skip
      refine aloadN (pc' := 37) dbb36 rfl rfl rfl ?_
      refine iconst (pc' := 38) (v := (1 : Int32)) dbb37 rfl rfl ?_
      refine newarrayE (i := 79) (cap := 1) (ty := .int) (ad := "[I") (pc' := 40) dbb38 rfl rfl (by decide) (by decide) (by decide) (by decide) (by decide) rfl (by decide) fun hq q kq gq Eq Aq Xq => ?_
      have sz_q : h.size ≤ q := by rw [gq]; exact K.1
      have ne_a_q : a ≠ q := Nat.ne_of_lt (by rw [gq]; exact Ea.lt)
      replace K := K.ext Eq
      replace Ea := Ea.ext Eq
      replace Sa := Sa.ext Eq
      replace Ma := Ma.ext Eq
      have Aq' : Arv Z hq q kq .int (1 : Int32) [(.int (0 : Int32))] (.int (0 : Int32)) := Aq.pad (pad_rep [] _ 1)
      refine putfield (i := 131) (i2 := 52) (i3 := 114) (pc' := 43) (v' := (.ref q)) (ty := (.array .int)) dbb40 rfl (Or.inr ⟨rfl, rfl, rfl⟩) rfl Ma Ea (by decide) rfl rfl (by simp) rfl fun h537 W538 => ?_
      replace K := K.wr W538 (Or.inl (by simp))
      replace Ea := Ea.wr W538
      replace Sa := Sa.other W538 (Or.inr (slot_ne (Or.inr (hw _ (List.mem_of_getElem? (i := 35) rfl))) (Or.inr (hw _ (List.mem_of_getElem? (i := 52) rfl))) (by decide) (t := .int) (t' := (.array .int)) (by decide) (by decide)))
      replace Ma := Ma.same W538
      replace Aq' := Aq'.other W538 (Ne.symm ne_a_q)
      replace Xq := Xq.wr W538
      refine aloadN (pc' := 44) dbb43 rfl rfl rfl ?_
      refine getfield (i := 131) (pc' := 47) dbb44 rfl Ma rfl ?_
      refine iconst (pc' := 48) (v := (0 : Int32)) dbb47 rfl rfl ?_
      refine lloadN (pc' := 49) dbb48 rfl rfl ?_
      refine l2i (pc' := 50) dbb49 rfl ?_
      refine iastore (pc' := 51) dbb50 Aq' ⟨by decide, by decide⟩ (by simp) (Nat.le_of_ble_eq_true rfl) rfl fun h539 W540 V541 => ?_
      replace K := K.wr W540 (Or.inr sz_q)
      replace Ea := Ea.wr W540
      replace Sa := Sa.other W540 (Or.inl ne_a_q)
      replace Ma := Ma.other W540 (Or.inl ne_a_q)
      replace Xq := Xq.wr W540
      replace Aq' : Arv Z h539 q kq .int (1 : Int32) [(.int (n.toInt32))] (.int (0 : Int32)) := V541
      refine goto (pc' := 76) dbb51 (by decide) rfl ?_
      exact retV dbb76 rfl (by decide) (by decide) ⟨rfl, K, by rw [sgn_pos hn q0, mag_pos hn q0, mags_lo q1]; exact ⟨Ea, Sa, q, kq, Ma, Aq', Xq⟩⟩
  · skip
    have q0 : n < 0 := (lw_lt n 0).mp q0
    refine lloadN (pc' := 11) dbb10 rfl rfl ?_
    refine lneg (pc' := 12) dbb11 rfl ?_
    refine lstoreN (pc' := 13) (L' := #[.val (.ref a), .val (.long (-n)), .second, .unset]) dbb12 rfl rfl ?_
    refine aloadN (pc' := 14) dbb13 rfl rfl rfl ?_
    refine iconst (pc' := 15) (v := (-1 : Int32)) dbb14 rfl rfl ?_
    refine putfield (i := 34) (i2 := 35) (i3 := 114) (pc' := 18) (v' := (.int (-1 : Int32))) (ty := .int) dbb15 rfl (Or.inr ⟨rfl, rfl, rfl⟩) rfl Sa Ea (by decide) rfl rfl (by simp) rfl fun h542 W543 => ?_
    replace K := K.wr W543 (Or.inl (by simp))
    replace Ea := Ea.wr W543
    replace Sa := Sa.same W543
    replace Ma := Ma.other W543 (Or.inr (slot_ne (Or.inr (hw _ (List.mem_of_getElem? (i := 52) rfl))) (Or.inr (hw _ (List.mem_of_getElem? (i := 35) rfl))) (by decide) (t := (.array .int)) (t' := .int) (by decide) (by decide)))
    refine goto (pc' := 26) dbb18 (by decide) rfl ?_
    refine lloadN (pc' := 27) dbb26 rfl rfl ?_
    refine bipush (pc' := 29) (v := (32 : Int32)) dbb27 rfl rfl ?_
    refine lushr (pc' := 30) dbb29 rfl ?_
    refine l2i (pc' := 31) dbb30 rfl ?_
    rw [show ((((-n).toUInt64 >>> ((32 : Int32) &&& 0x3f).toInt64.toUInt64).toInt64).toInt32) = (hiw (-n)) from rfl]
    refine istoreN (pc' := 32) (L' := #[.val (.ref a), .val (.long (-n)), .second, .val (.int (hiw (-n)))]) dbb31 rfl rfl ?_
    refine iloadN (pc' := 33) dbb32 rfl rfl ?_
    refine ifc (pc' := 54) (pcF := 36) dbb33 (by decide) rfl rfl (fun (q1 : ¬ ((hiw (-n)) = (0 : Int32))) => ?_) (fun (q1 : (hiw (-n)) = (0 : Int32)) => ?_)
    · skip
      refine aloadN (pc' := 55) dbb54 rfl rfl rfl ?_
      refine iconst (pc' := 56) (v := (2 : Int32)) dbb55 rfl rfl ?_
      refine newarrayE (i := 79) (cap := 2) (ty := .int) (ad := "[I") (pc' := 58) dbb56 rfl rfl (by decide) (by decide) (by decide) (by decide) (by decide) rfl (by decide) fun hq q kq gq Eq Aq Xq => ?_
      have sz_q : h.size ≤ q := by rw [gq]; exact K.1
      have ne_a_q : a ≠ q := Nat.ne_of_lt (by rw [gq]; exact Ea.lt)
      replace K := K.ext Eq
      replace Ea := Ea.ext Eq
      replace Sa := Sa.ext Eq
      replace Ma := Ma.ext Eq
      have Aq' : Arv Z hq q kq .int (2 : Int32) [(.int (0 : Int32)), (.int (0 : Int32))] (.int (0 : Int32)) := Aq.pad (pad_rep [] _ 2)
      refine putfield (i := 131) (i2 := 52) (i3 := 114) (pc' := 61) (v' := (.ref q)) (ty := (.array .int)) dbb58 rfl (Or.inr ⟨rfl, rfl, rfl⟩) rfl Ma Ea (by decide) rfl rfl (by simp) rfl fun h544 W545 => ?_
      replace K := K.wr W545 (Or.inl (by simp))
      replace Ea := Ea.wr W545
      replace Sa := Sa.other W545 (Or.inr (slot_ne (Or.inr (hw _ (List.mem_of_getElem? (i := 35) rfl))) (Or.inr (hw _ (List.mem_of_getElem? (i := 52) rfl))) (by decide) (t := .int) (t' := (.array .int)) (by decide) (by decide)))
      replace Ma := Ma.same W545
      replace Aq' := Aq'.other W545 (Ne.symm ne_a_q)
      replace Xq := Xq.wr W545
      refine aloadN (pc' := 62) dbb61 rfl rfl rfl ?_
      refine getfield (i := 131) (pc' := 65) dbb62 rfl Ma rfl ?_
      refine iconst (pc' := 66) (v := (0 : Int32)) dbb65 rfl rfl ?_
      refine iloadN (pc' := 67) dbb66 rfl rfl ?_
      refine iastore (pc' := 68) dbb67 Aq' ⟨by decide, by decide⟩ (by simp) (Nat.le_of_ble_eq_true rfl) rfl fun h546 W547 V548 => ?_
      replace K := K.wr W547 (Or.inr sz_q)
      replace Ea := Ea.wr W547
      replace Sa := Sa.other W547 (Or.inl ne_a_q)
      replace Ma := Ma.other W547 (Or.inl ne_a_q)
      replace Xq := Xq.wr W547
      replace Aq' : Arv Z h546 q kq .int (2 : Int32) [(.int (hiw (-n))), (.int (0 : Int32))] (.int (0 : Int32)) := V548
      refine aloadN (pc' := 69) dbb68 rfl rfl rfl ?_
      refine getfield (i := 131) (pc' := 72) dbb69 rfl Ma rfl ?_
      refine iconst (pc' := 73) (v := (1 : Int32)) dbb72 rfl rfl ?_
      refine lloadN (pc' := 74) dbb73 rfl rfl ?_
      refine l2i (pc' := 75) dbb74 rfl ?_
      refine iastore (pc' := 76) dbb75 Aq' ⟨by decide, by decide⟩ (by simp) (Nat.le_of_ble_eq_true rfl) rfl fun h549 W550 V551 => ?_
      replace K := K.wr W550 (Or.inr sz_q)
      replace Ea := Ea.wr W550
      replace Sa := Sa.other W550 (Or.inl ne_a_q)
      replace Ma := Ma.other W550 (Or.inl ne_a_q)
      replace Xq := Xq.wr W550
      replace Aq' : Arv Z h549 q kq .int (2 : Int32) [(.int (hiw (-n))), (.int ((-n).toInt32))] (.int (0 : Int32)) := V551
      exact retV dbb76 rfl (by decide) (by decide) ⟨rfl, K, by rw [sgn_neg q0, mag_neg hn q0, mags_hi q1]; exact ⟨Ea, Sa, q, kq, Ma, Aq', Xq⟩⟩
    · skip
      refine aloadN (pc' := 37) dbb36 rfl rfl rfl ?_
      refine iconst (pc' := 38) (v := (1 : Int32)) dbb37 rfl rfl ?_
      refine newarrayE (i := 79) (cap := 1) (ty := .int) (ad := "[I") (pc' := 40) dbb38 rfl rfl (by decide) (by decide) (by decide) (by decide) (by decide) rfl (by decide) fun hq q kq gq Eq Aq Xq => ?_
      have sz_q : h.size ≤ q := by rw [gq]; exact K.1
      have ne_a_q : a ≠ q := Nat.ne_of_lt (by rw [gq]; exact Ea.lt)
      replace K := K.ext Eq
      replace Ea := Ea.ext Eq
      replace Sa := Sa.ext Eq
      replace Ma := Ma.ext Eq
      have Aq' : Arv Z hq q kq .int (1 : Int32) [(.int (0 : Int32))] (.int (0 : Int32)) := Aq.pad (pad_rep [] _ 1)
      refine putfield (i := 131) (i2 := 52) (i3 := 114) (pc' := 43) (v' := (.ref q)) (ty := (.array .int)) dbb40 rfl (Or.inr ⟨rfl, rfl, rfl⟩) rfl Ma Ea (by decide) rfl rfl (by simp) rfl fun h552 W553 => ?_
      replace K := K.wr W553 (Or.inl (by simp))
      replace Ea := Ea.wr W553
      replace Sa := Sa.other W553 (Or.inr (slot_ne (Or.inr (hw _ (List.mem_of_getElem? (i := 35) rfl))) (Or.inr (hw _ (List.mem_of_getElem? (i := 52) rfl))) (by decide) (t := .int) (t' := (.array .int)) (by decide) (by decide)))
      replace Ma := Ma.same W553
      replace Aq' := Aq'.other W553 (Ne.symm ne_a_q)
      replace Xq := Xq.wr W553
      refine aloadN (pc' := 44) dbb43 rfl rfl rfl ?_
      refine getfield (i := 131) (pc' := 47) dbb44 rfl Ma rfl ?_
      refine iconst (pc' := 48) (v := (0 : Int32)) dbb47 rfl rfl ?_
      refine lloadN (pc' := 49) dbb48 rfl rfl ?_
      refine l2i (pc' := 50) dbb49 rfl ?_
      refine iastore (pc' := 51) dbb50 Aq' ⟨by decide, by decide⟩ (by simp) (Nat.le_of_ble_eq_true rfl) rfl fun h554 W555 V556 => ?_
      replace K := K.wr W555 (Or.inr sz_q)
      replace Ea := Ea.wr W555
      replace Sa := Sa.other W555 (Or.inl ne_a_q)
      replace Ma := Ma.other W555 (Or.inl ne_a_q)
      replace Xq := Xq.wr W555
      replace Aq' : Arv Z h554 q kq .int (1 : Int32) [(.int ((-n).toInt32))] (.int (0 : Int32)) := V556
      refine goto (pc' := 76) dbb51 (by decide) rfl ?_
      exact retV dbb76 rfl (by decide) (by decide) ⟨rfl, K, by rw [sgn_neg q0, mag_neg hn q0, mags_lo q1]; exact ⟨Ea, Sa, q, kq, Ma, Aq', Xq⟩⟩
set_option maxRecDepth 65536 in
set_option maxHeartbeats 40000000 in
theorem rm_vo (l : Launch) (Z : State) (a0 : Array Value) (hw : ∀ d ∈ tables_1, d.before a0 Z = true) (hEL : EW Z a0 []) (n0 : Nat) (n : Int64) (h : Heap)  (hC : Caches Z) :
    Met l true Z [] n0 (⟨"java/math/BigInteger", "valueOf", "(J)Ljava/math/BigInteger;"⟩ : MethodName) jdk_2097_method_29_code 2 (some (.object "java/math/BigInteger")) ({ frames := 3, cells := 2, slots := 8, locals := 50 } : Room) [] #[(.long n)] [] h (fun v h' => ∃ g : Addr, v = some (.ref g) ∧ Ext h h' ∧ BIc Z h' g (sgn n) (mag n)) := by
  refine Met.of_body (a0 := a0) (L0 := #[.val (.long n), .second]) (plainFor_of_name (by first | (simp [plainName, overriddenIn]; done) | decide +kernel)) (fun m => by first | rfl | (simp [entryFrame, mkF, argsToLocals, Value.category]; done)) hw hEL (by decide) ?_
  have K : Keep h h [] := Keep.refl _ _
  obtain ⟨⟨z0, Sz, Bz⟩, -, ⟨pp, kp, ps, Sp, Ap, hp⟩, ⟨np, kn, ns, Sn, An, hn⟩⟩ := hC
  have J53 : ¬ n = 0 → Wq l true Z [] a0 n0 (⟨"java/math/BigInteger", "valueOf", "(J)Ljava/math/BigInteger;"⟩ : MethodName) jdk_2097_method_29_code 2 (some (.object "java/math/BigInteger")) ({ frames := 3, cells := 2, slots := 8, locals := 50 } : Room) h (fun v h' => ∃ g : Addr, v = some (.ref g) ∧ Ext h h' ∧ BIc Z h' g (sgn n) (mag n)) [] h 0 0 53 #[.val (.long n), .second] [] := by
    intro h0
    refine new (i := 179) (i2 := 114) (i3 := 8) (pc' := 56) dbc53 rfl rfl rfl (by decide) (by decide) rfl fun h557 a558 g559 E560 A561 D562 => ?_
    have sz_a558 : h.size ≤ a558 := by rw [g559]; exact K.1
    replace K := K.ext E560
    have F_signum_a558 : Fld Z h557 a558 "java/math/BigInteger" "signum" "I" (.int (0 : Int32)) := D562 (Or.inr (hw _ (List.mem_of_getElem? (i := 35) rfl))) (ty := .int) (by decide)
    have F_mag_a558 : Fld Z h557 a558 "java/math/BigInteger" "mag" "[I" .null := D562 (Or.inr (hw _ (List.mem_of_getElem? (i := 52) rfl))) (ty := (.array .int)) (by decide)
    refine dup (pc' := 57) dbc56 rfl rfl ?_
    refine lloadN (pc' := 58) dbc57 rfl rfl ?_
    refine call (i := 232) (i2 := 8) (Wd := 1) (pc' := 61) (kInit (i := 230) (i2 := 231) (i4 := 232) (a := a558) (argsL := [(.long n)]) (S' := [(.ref a558)]) (Wd := 1) dbc58 rfl rfl rfl rfl (by decide) rfl pd_17 rfl rfl (Nat.le_of_ble_eq_true rfl)) (rm_biJ l Z a0 hw hEL n0 a558 n _ A561 F_signum_a558 F_mag_a558 h0) rfl rfl (by simp) (by decide) (by decide) (by decide) (by decide) rfl fun v_ h563 P564 sz565 => ?_
    obtain ⟨rfl, K2, B2⟩ := P564
    replace K := K.trans K2 (allS (Or.inr sz_a558) all0)
    refine at' (ce' := 2) (sl' := 8) (pc' := 61) (S' := [(.ref a558)]) rfl rfl rfl rfl rfl ?_
    exact retA dbc61 rfl rfl rfl (by decide) (by decide) ⟨a558, rfl, keepExt K, B2⟩
  have J31 : ¬ n = 0 → Wq l true Z [] a0 n0 (⟨"java/math/BigInteger", "valueOf", "(J)Ljava/math/BigInteger;"⟩ : MethodName) jdk_2097_method_29_code 2 (some (.object "java/math/BigInteger")) ({ frames := 3, cells := 2, slots := 8, locals := 50 } : Room) h (fun v h' => ∃ g : Addr, v = some (.ref g) ∧ Ext h h' ∧ BIc Z h' g (sgn n) (mag n)) [] h 0 0 31 #[.val (.long n), .second] [] := by
    intro h0
    refine lloadN (pc' := 32) dbc31 rfl rfl ?_
    refine lconst (pc' := 33) (v := (0 : Int64)) dbc32 rfl rfl ?_
    refine lcmp (pc' := 34) dbc33 rfl ?_
    refine ifc (pc' := 53) (pcF := 37) dbc34 (by decide) rfl rfl (fun (q0 : ¬ ((lcmpW n (0 : Int64)) < (0 : Int32))) => ?_) (fun (q0 : (lcmpW n (0 : Int64)) < (0 : Int32)) => ?_)
    · skip
      exact J53 h0
    · skip
      have q0 : n < 0 := (lw_lt n 0).mp q0
      refine lloadN (pc' := 38) dbc37 rfl rfl ?_
      refine ldc2Long (i := 229) (v := (-16 : Int64)) (pc' := 41) dbc38 rfl rfl ?_
      refine lcmp (pc' := 42) dbc41 rfl ?_
      refine ifc (pc' := 53) (pcF := 45) dbc42 (by decide) rfl rfl (fun (q1 : (lcmpW n (-16 : Int64)) < (0 : Int32)) => ?_) (fun (q1 : ¬ ((lcmpW n (-16 : Int64)) < (0 : Int32))) => ?_)
      · skip
        exact J53 h0
      · skip
        have q1 : ¬ n < -16 := fun q => q1 ((lw_lt n (-16)).mpr q)
        refine old fun O566 _ => ?_
        refine getstatic (i := 260) (v := (.ref np)) (pc' := 48) dbc45 rfl (Sn.ext O566.2) rfl ?_
        refine lloadN (pc' := 49) dbc48 rfl rfl ?_
        refine lneg (pc' := 50) dbc49 rfl ?_
        refine l2i (pc' := 51) dbc50 rfl ?_
        obtain ⟨i, i1, i2, ei, es, em⟩ := neg16 q0 q1
        obtain ⟨g, eg, Bg⟩ := hn i i1 i2
        rw [ei]
        have e16 := i16 ⟨i, by omega⟩
        refine old fun O _ => ?_
        refine aaload (v := .ref g) (pc' := 52) dbc51 rfl (An.ext O.2) ⟨e16.1, e16.2.1⟩ (by rw [show (Int32.ofNat i).toNatClampNeg = i from e16.2.2]; exact eg) rfl ?_
        exact retA dbc52 rfl rfl rfl (by decide) (by decide) ⟨g, rfl, ⟨Nat.le_refl _, fun _ _ q => q⟩, by rw [es, em]; exact Bg.ext O.2⟩
  refine lloadN (pc' := 1) dbc0 rfl rfl ?_
  refine lconst (pc' := 2) (v := (0 : Int64)) dbc1 rfl rfl ?_
  refine lcmp (pc' := 3) dbc2 rfl ?_
  refine ifc (pc' := 10) (pcF := 6) dbc3 (by decide) rfl rfl (fun (q0 : ¬ ((lcmpW n (0 : Int64)) = (0 : Int32))) => ?_) (fun (q0 : (lcmpW n (0 : Int64)) = (0 : Int32)) => ?_)
  · skip
    have h0 : ¬ n = 0 := fun q => q0 ((lw_eq n 0).mpr q)
    refine lloadN (pc' := 11) dbc10 rfl rfl ?_
    refine lconst (pc' := 12) (v := (0 : Int64)) dbc11 rfl rfl ?_
    refine lcmp (pc' := 13) dbc12 rfl ?_
    refine ifc (pc' := 31) (pcF := 16) dbc13 (by decide) rfl rfl (fun (q1 : ¬ ((0 : Int32) < (lcmpW n (0 : Int64)))) => ?_) (fun (q1 : (0 : Int32) < (lcmpW n (0 : Int64))) => ?_)
    · skip
      exact J31 h0
    · skip
      have q1 : 0 < n := (lw_gt n 0).mp q1
      refine lloadN (pc' := 17) dbc16 rfl rfl ?_
      refine ldc2Long (i := 10) (v := (16 : Int64)) (pc' := 20) dbc17 rfl rfl ?_
      refine lcmp (pc' := 21) dbc20 rfl ?_
      refine ifc (pc' := 31) (pcF := 24) dbc21 (by decide) rfl rfl (fun (q2 : (0 : Int32) < (lcmpW n (16 : Int64))) => ?_) (fun (q2 : ¬ ((0 : Int32) < (lcmpW n (16 : Int64)))) => ?_)
      · skip
        exact J31 h0
      · skip
        have q2 : ¬ 16 < n := fun q => q2 ((lw_gt n 16).mpr q)
        refine old fun O567 _ => ?_
        refine getstatic (i := 11) (v := (.ref pp)) (pc' := 27) dbc24 rfl (Sp.ext O567.2) rfl ?_
        refine lloadN (pc' := 28) dbc27 rfl rfl ?_
        refine l2i (pc' := 29) dbc28 rfl ?_
        obtain ⟨i, i1, i2, ei, es, em⟩ := pos16 q1 q2
        obtain ⟨g, eg, Bg⟩ := hp i i1 i2
        rw [ei]
        have e16 := i16 ⟨i, by omega⟩
        refine old fun O _ => ?_
        refine aaload (v := .ref g) (pc' := 30) dbc29 rfl (Ap.ext O.2) ⟨e16.1, e16.2.1⟩ (by rw [show (Int32.ofNat i).toNatClampNeg = i from e16.2.2]; exact eg) rfl ?_
        exact retA dbc30 rfl rfl rfl (by decide) (by decide) ⟨g, rfl, ⟨Nat.le_refl _, fun _ _ q => q⟩, by rw [es, em]; exact Bg.ext O.2⟩
  · skip
    obtain rfl := (lw_eq n 0).mp q0
    refine at' (ce' := 0) (sl' := 0) (pc' := 6) (S' := []) rfl rfl rfl rfl rfl ?_
    refine old fun O568 _ => ?_
    refine getstatic (i := 261) (v := (.ref z0)) (pc' := 9) dbc6 rfl (Sz.ext O568.2) rfl ?_
    refine old fun O _ => ?_
    exact retA dbc9 rfl rfl rfl (by decide) (by decide) ⟨z0, rfl, ⟨Nat.le_refl _, fun _ _ q => q⟩, Bz.ext O.2⟩
set_option maxRecDepth 65536 in
set_option maxHeartbeats 40000000 in
theorem rm_ri (l : Launch) (Z : State) (a0 : Array Value) (hw : ∀ d ∈ tables_1, d.before a0 Z = true) (hEL : EW Z a0 []) (n0 : Nat) (r a b : Addr) (h : Heap) (Er : Exa Z h r "com/example/varuna/varuna/Rational") (Nr : Fld Z h r "com/example/varuna/varuna/Rational" "numerator" "Ljava/math/BigInteger;" .null) (Dr : Fld Z h r "com/example/varuna/varuna/Rational" "denominator" "Ljava/math/BigInteger;" .null)  :
    Met l true Z [] n0 (⟨"com/example/varuna/varuna/Rational", "<init>", "(Ljava/math/BigInteger;Ljava/math/BigInteger;)V"⟩ : MethodName) prog_5_method_1_code 3 none ({ frames := 1, cells := 0, slots := 0, locals := 12 } : Room) [] #[(.ref r), (.ref a), (.ref b)] [r] h (fun v h' => v = none ∧ Keep h h' [r] ∧ Exa Z h' r "com/example/varuna/varuna/Rational" ∧ Fld Z h' r "com/example/varuna/varuna/Rational" "numerator" "Ljava/math/BigInteger;" (.ref a) ∧ Fld Z h' r "com/example/varuna/varuna/Rational" "denominator" "Ljava/math/BigInteger;" (.ref b)) := by
  refine Met.of_body (a0 := a0) (L0 := #[.val (.ref r), .val (.ref a), .val (.ref b)]) (plainFor_of_name (by first | (simp [plainName, overriddenIn]; done) | decide +kernel)) (fun m => by first | rfl | (simp [entryFrame, mkF, argsToLocals, Value.category]; done)) hw hEL (by decide) ?_
  have K : Keep h h [r] := Keep.refl _ _
  refine aloadN (pc' := 1) dbd0 rfl rfl rfl ?_
  refine initObj (i := 16) (i2 := 17) (i3 := 18) (Wd := 0) (pc' := 4) dbd1 rfl rfl rfl rfl (by decide) (Nat.le_of_ble_eq_true rfl) (by decide) rfl ?_
  refine aloadN (pc' := 5) dbd4 rfl rfl rfl ?_
  refine aloadN (pc' := 6) dbd5 rfl rfl rfl ?_
  refine putfield (i := 19) (i2 := 20) (i3 := 5) (pc' := 9) (v' := (.ref a)) (ty := (.object "java/math/BigInteger")) dbd6 rfl (Or.inr ⟨rfl, rfl, rfl⟩) rfl Nr Er (by decide) rfl rfl (by simp) rfl fun h569 W570 => ?_
  replace K := K.wr W570 (Or.inl (by simp))
  replace Er := Er.wr W570
  replace Nr := Nr.same W570
  replace Dr := Dr.other W570 (Or.inr (slot_ne (Or.inr (hw _ (List.mem_of_getElem? (i := 22) rfl))) (Or.inr (hw _ (List.mem_of_getElem? (i := 20) rfl))) (by decide) (t := (.object "java/math/BigInteger")) (t' := (.object "java/math/BigInteger")) (by decide) (by decide)))
  refine aloadN (pc' := 10) dbd9 rfl rfl rfl ?_
  refine aloadN (pc' := 11) dbd10 rfl rfl rfl ?_
  refine putfield (i := 21) (i2 := 22) (i3 := 5) (pc' := 14) (v' := (.ref b)) (ty := (.object "java/math/BigInteger")) dbd11 rfl (Or.inr ⟨rfl, rfl, rfl⟩) rfl Dr Er (by decide) rfl rfl (by simp) rfl fun h571 W572 => ?_
  replace K := K.wr W572 (Or.inl (by simp))
  replace Er := Er.wr W572
  replace Nr := Nr.other W572 (Or.inr (slot_ne (Or.inr (hw _ (List.mem_of_getElem? (i := 20) rfl))) (Or.inr (hw _ (List.mem_of_getElem? (i := 22) rfl))) (by decide) (t := (.object "java/math/BigInteger")) (t' := (.object "java/math/BigInteger")) (by decide) (by decide)))
  replace Dr := Dr.same W572
  exact retV dbd14 rfl (by decide) (by decide) ⟨rfl, K, Er, Nr, Dr⟩
set_option maxRecDepth 65536 in
set_option maxHeartbeats 40000000 in
theorem rm_oJ (l : Launch) (Z : State) (a0 : Array Value) (hw : ∀ d ∈ tables_1, d.before a0 Z = true) (hEL : EW Z a0 []) (n0 : Nat) (n : Int64) (h : Heap)  (hC : Caches Z) :
    Met l true Z [] n0 (⟨"com/example/varuna/varuna/Rational", "of", "(J)Lcom/example/varuna/varuna/Rational;"⟩ : MethodName) prog_5_method_2_code 2 (some (.object "com/example/varuna/varuna/Rational")) ({ frames := 4, cells := 3, slots := 10, locals := 70 } : Room) [] #[(.long n)] [] h (fun v h' => ∃ r : Addr, v = some (.ref r) ∧ Ext h h' ∧ RT Z h' r (sgn n) (mag n)) := by
  refine Met.of_body (a0 := a0) (L0 := #[.val (.long n), .second]) (plainFor_of_name (by first | (simp [plainName, overriddenIn]; done) | decide +kernel)) (fun m => by first | rfl | (simp [entryFrame, mkF, argsToLocals, Value.category]; done)) hw hEL (by decide) ?_
  have K : Keep h h [] := Keep.refl _ _
  obtain ⟨-, ⟨o1, So, Bo⟩, -⟩ := id hC
  refine new (i := 4) (i2 := 5) (i3 := 2) (pc' := 3) dbe0 rfl rfl rfl (by decide) (by decide) rfl fun h573 a574 g575 E576 A577 D578 => ?_
  have sz_a574 : h.size ≤ a574 := by rw [g575]; exact K.1
  replace K := K.ext E576
  have F_numerator_a574 : Fld Z h573 a574 "com/example/varuna/varuna/Rational" "numerator" "Ljava/math/BigInteger;" .null := D578 (Or.inr (hw _ (List.mem_of_getElem? (i := 20) rfl))) (ty := (.object "java/math/BigInteger")) (by decide)
  have F_denominator_a574 : Fld Z h573 a574 "com/example/varuna/varuna/Rational" "denominator" "Ljava/math/BigInteger;" .null := D578 (Or.inr (hw _ (List.mem_of_getElem? (i := 22) rfl))) (ty := (.object "java/math/BigInteger")) (by decide)
  refine dup (pc' := 4) dbe3 rfl rfl ?_
  refine lloadN (pc' := 5) dbe4 rfl rfl ?_
  refine call (i := 9) (i2 := 8) (Wd := 2) (pc' := 8) (kStatic (i := 6) (i2 := 7) (i3 := 8) (i4 := 9) (argsL := [(.long n)]) (S' := [(.ref a574), (.ref a574)]) (Wd := 2) dbe5 rfl rfl rfl rfl (by decide) rfl pd_18 rfl rfl (Nat.le_of_ble_eq_true rfl)) (rm_vo l Z a0 hw hEL n0 n _ hC) rfl rfl (by simp) (by decide) (by decide) (by decide) (by decide) rfl fun v_ h579 P580 sz581 => ?_
  obtain ⟨g, rfl, X1, B1⟩ := P580
  replace K := K.ext X1
  replace A577 := A577.ext X1
  replace F_numerator_a574 := F_numerator_a574.ext X1
  replace F_denominator_a574 := F_denominator_a574.ext X1
  refine at' (ce' := 3) (sl' := 10) (pc' := 8) (S' := [(.ref g), (.ref a574), (.ref a574)]) rfl rfl rfl rfl rfl ?_
  refine old fun O582 _ => ?_
  refine getstatic (i := 12) (v := (.ref o1)) (pc' := 11) dbe8 rfl (So.ext O582.2) rfl ?_
  refine old fun O _ => ?_
  have Ba0 := B1.bi
  have Bb0 := (Bo.ext O.2).bi
  have Er0 := A577
  refine call (i := 15) (i2 := 2) (Wd := 1) (pc' := 14) (kInit (i := 13) (i2 := 14) (i4 := 15) (a := a574) (argsL := [(.ref g), (.ref o1)]) (S' := [(.ref a574)]) (Wd := 1) dbe11 rfl rfl rfl rfl (by decide) rfl pd_19 rfl rfl (Nat.le_of_ble_eq_true rfl)) (rm_ri l Z a0 hw hEL n0 a574 g o1 _ A577 F_numerator_a574 F_denominator_a574) rfl rfl (by simp) (by decide) (by decide) (by decide) (by decide) rfl fun v_ h583 P584 sz585 => ?_
  obtain ⟨rfl, K2, E2, N2, D2⟩ := P584
  replace K := K.trans K2 (allS (Or.inr sz_a574) all0)
  refine at' (ce' := 3) (sl' := 10) (pc' := 14) (S' := [(.ref a574)]) rfl rfl rfl rfl rfl ?_
  exact retA dbe14 rfl rfl rfl (by decide) (by decide) ⟨a574, rfl, keepExt K, E2, g, o1, N2, D2, Ba0.keepR K2 Er0 (hw _ (List.mem_of_getElem? (i := 5) rfl)), Bb0.keepR K2 Er0 (hw _ (List.mem_of_getElem? (i := 5) rfl))⟩
set_option maxRecDepth 65536 in
set_option maxHeartbeats 40000000 in
theorem rm_sig (l : Launch) (Z : State) (a0 : Array Value) (hw : ∀ d ∈ tables_1, d.before a0 Z = true) (hEL : EW Z a0 []) (n0 : Nat) (a : Addr) (s : Int32) (h : Heap) (Sa : Fld Z h a "java/math/BigInteger" "signum" "I" (.int s))  :
    Met l true Z [] n0 (⟨"java/math/BigInteger", "signum", "()I"⟩ : MethodName) jdk_2097_method_81_code 1 (some .int) ({ frames := 0, cells := 0, slots := 0, locals := 0 } : Room) [] #[(.ref a)] [] h (fun v h' => v = some (.int s) ∧ h' = h) := by
  refine Met.of_body (a0 := a0) (L0 := #[.val (.ref a)]) (plainFor_of_name (by first | (simp [plainName, overriddenIn]; done) | decide +kernel)) (fun m => by first | rfl | (simp [entryFrame, mkF, argsToLocals, Value.category]; done)) hw hEL (by decide) ?_
  refine aloadN (pc' := 1) dbf0 rfl rfl rfl ?_
  refine getfield (i := 34) (pc' := 4) dbf1 rfl Sa rfl ?_
  exact retI dbf4 rfl (Or.inl rfl) rfl (by decide) (by decide) ⟨rfl, rfl⟩
set_option maxRecDepth 65536 in
set_option maxHeartbeats 40000000 in
theorem rm_oBB0 (l : Launch) (Z : State) (a0 : Array Value) (hw : ∀ d ∈ tables_1, d.before a0 Z = true) (hEL : EW Z a0 []) (n0 : Nat) (a b : Addr) (s : Int32) (h : Heap)  (hC : Caches Z) (Ha : BIc Z h a 0 []) (Hb : BIc Z h b 1 [1])  :
    Met l true Z [] n0 (⟨"com/example/varuna/varuna/Rational", "of", "(Ljava/math/BigInteger;Ljava/math/BigInteger;)Lcom/example/varuna/varuna/Rational;"⟩ : MethodName) prog_5_method_4_code 3 (some (.object "com/example/varuna/varuna/Rational")) ({ frames := 6, cells := 22, slots := 62, locals := 150 } : Room) [] #[(.ref a), (.ref b)] [] h (fun v h' => ∃ r : Addr, v = some (.ref r) ∧ Ext h h' ∧ RT Z h' r 0 []) := by
  refine Met.of_body (a0 := a0) (L0 := #[.val (.ref a), .val (.ref b), .unset]) (plainFor_of_name (by first | (simp [plainName, overriddenIn]; done) | decide +kernel)) (fun m => by first | rfl | (simp [entryFrame, mkF, argsToLocals, Value.category]; done)) hw hEL (by decide) ?_
  have K : Keep h h [] := Keep.refl _ _
  refine aloadN (pc' := 1) dbg0 rfl rfl rfl ?_
  refine call (i := 33) (i2 := 8) (Wd := 0) (pc' := 4) (kVirt (i := 29) (i2 := 30) (i3 := 32) (i4 := 31) (C := "java/math/BigInteger") (a := b) (argsL := []) (S' := []) (Wd := 0) dbg1 rfl rfl rfl rfl (Hb.1.ext (keepExt K)) (by decide) rfl pd_6 rfl rfl (Nat.le_of_ble_eq_true rfl)) (rm_sig l Z a0 hw hEL n0 b 1 _ (Hb.2.1.ext (keepExt K))) rfl rfl (by simp) (by decide) (by decide) (by decide) (by decide) rfl fun v_ h586 P587 sz588 => ?_
  obtain ⟨rfl, e589⟩ := P587
  rw [e589]
  refine at' (ce' := 0) (sl' := 0) (pc' := 4) (S' := [(.int (1 : Int32))]) rfl rfl rfl rfl rfl ?_
  refine ifT (pc' := 24) dbg4 (by decide : ¬ ((1 : Int32) = (0 : Int32))) (by decide) rfl ?_
  refine aloadN (pc' := 25) dbg24 rfl rfl rfl ?_
  refine aloadN (pc' := 26) dbg25 rfl rfl rfl ?_
  refine call (i := 40) (i2 := 8) (Wd := 0) (pc' := 29) (kVirt (i := 36) (i2 := 37) (i3 := 39) (i4 := 38) (C := "java/math/BigInteger") (a := a) (argsL := [(.ref b)]) (S' := []) (Wd := 0) dbg26 rfl rfl rfl rfl (Ha.1) (by decide) rfl pd_16 rfl rfl (Nat.le_of_ble_eq_true rfl)) (rm_gcd0 l Z a0 hw hEL n0 a b s _ Ha Hb) rfl rfl (by simp) (by decide) (by decide) (by decide) (by decide) rfl fun v_ h590 P591 sz592 => ?_
  obtain ⟨g, rfl, X1, G1⟩ := P591
  replace K := K.ext X1
  refine at' (ce' := 9) (sl' := 24) (pc' := 29) (S' := [(.ref g)]) rfl rfl rfl rfl rfl ?_
  refine astoreN (pc' := 30) (L' := #[.val (.ref a), .val (.ref b), .val (.ref g)]) dbg29 rfl rfl rfl ?_
  refine aloadN (pc' := 31) dbg30 rfl rfl rfl ?_
  refine call (i := 33) (i2 := 8) (Wd := 0) (pc' := 34) (kVirt (i := 29) (i2 := 30) (i3 := 32) (i4 := 31) (C := "java/math/BigInteger") (a := b) (argsL := []) (S' := []) (Wd := 0) dbg31 rfl rfl rfl rfl (Hb.1.ext (keepExt K)) (by decide) rfl pd_6 rfl rfl (Nat.le_of_ble_eq_true rfl)) (rm_sig l Z a0 hw hEL n0 b 1 _ (Hb.2.1.ext (keepExt K))) rfl rfl (by simp) (by decide) (by decide) (by decide) (by decide) rfl fun v_ h593 P594 sz595 => ?_
  obtain ⟨rfl, e596⟩ := P594
  rw [e596]
  refine at' (ce' := 9) (sl' := 24) (pc' := 34) (S' := [(.int (1 : Int32))]) rfl rfl rfl rfl rfl ?_
  refine ifT (pc' := 42) dbg34 (by decide : ¬ ((1 : Int32) < (0 : Int32))) (by decide) rfl ?_
  refine new (i := 4) (i2 := 5) (i3 := 2) (pc' := 45) dbg42 rfl rfl rfl (by decide) (by decide) rfl fun h597 a598 g599 E600 A601 D602 => ?_
  have sz_a598 : h.size ≤ a598 := by rw [g599]; exact K.1
  replace K := K.ext E600
  replace G1 := G1.ext E600
  have F_numerator_a598 : Fld Z h597 a598 "com/example/varuna/varuna/Rational" "numerator" "Ljava/math/BigInteger;" .null := D602 (Or.inr (hw _ (List.mem_of_getElem? (i := 20) rfl))) (ty := (.object "java/math/BigInteger")) (by decide)
  have F_denominator_a598 : Fld Z h597 a598 "com/example/varuna/varuna/Rational" "denominator" "Ljava/math/BigInteger;" .null := D602 (Or.inr (hw _ (List.mem_of_getElem? (i := 22) rfl))) (ty := (.object "java/math/BigInteger")) (by decide)
  refine dup (pc' := 46) dbg45 rfl rfl ?_
  refine aloadN (pc' := 47) dbg46 rfl rfl rfl ?_
  refine aloadN (pc' := 48) dbg47 rfl rfl rfl ?_
  refine call (i := 137) (i2 := 8) (Wd := 2) (pc' := 51) (kVirt (i := 133) (i2 := 134) (i3 := 136) (i4 := 135) (C := "java/math/BigInteger") (a := a) (argsL := [(.ref g)]) (S' := [(.ref a598), (.ref a598)]) (Wd := 2) dbg48 rfl rfl rfl rfl (Ha.1.ext (keepExt K)) (by decide) rfl pd_16 rfl rfl (Nat.le_of_ble_eq_true rfl)) (rm_div0 l Z a0 hw hEL n0 a g s _ hC (Ha.bi.ext (keepExt K)) G1) rfl rfl (by simp) (by decide) (by decide) (by decide) (by decide) rfl fun v_ h603 P604 sz605 => ?_
  obtain ⟨d5, rfl, X5, D5⟩ := P604
  replace K := K.ext X5
  replace A601 := A601.ext X5
  replace F_numerator_a598 := F_numerator_a598.ext X5
  replace F_denominator_a598 := F_denominator_a598.ext X5
  replace G1 := G1.ext X5
  refine at' (ce' := 16) (sl' := 44) (pc' := 51) (S' := [(.ref d5), (.ref a598), (.ref a598)]) rfl rfl rfl rfl rfl ?_
  refine aloadN (pc' := 52) dbg51 rfl rfl rfl ?_
  refine aloadN (pc' := 53) dbg52 rfl rfl rfl ?_
  refine call (i := 137) (i2 := 8) (Wd := 3) (pc' := 56) (kVirt (i := 133) (i2 := 134) (i3 := 136) (i4 := 135) (C := "java/math/BigInteger") (a := b) (argsL := [(.ref g)]) (S' := [(.ref d5), (.ref a598), (.ref a598)]) (Wd := 3) dbg53 rfl rfl rfl rfl (Hb.1.ext (keepExt K)) (by decide) rfl pd_16 rfl rfl (Nat.le_of_ble_eq_true rfl)) (rm_div1 l Z a0 hw hEL n0 b g 1 1 _ hC (Hb.bi.ext (keepExt K)) G1 (by decide) (by decide)) rfl rfl (by simp) (by decide) (by decide) (by decide) (by decide) rfl fun v_ h606 P607 sz608 => ?_
  obtain ⟨d6, rfl, X6, D6⟩ := P607
  replace K := K.ext X6
  replace A601 := A601.ext X6
  replace F_numerator_a598 := F_numerator_a598.ext X6
  replace F_denominator_a598 := F_denominator_a598.ext X6
  replace G1 := G1.ext X6
  replace D5 := D5.ext X6
  refine at' (ce' := 22) (sl' := 62) (pc' := 56) (S' := [(.ref d6), (.ref d5), (.ref a598), (.ref a598)]) rfl rfl rfl rfl rfl ?_
  have Ba0 := D5
  have Bb0 := D6
  have Er0 := A601
  refine call (i := 15) (i2 := 2) (Wd := 1) (pc' := 59) (kInit (i := 13) (i2 := 14) (i4 := 15) (a := a598) (argsL := [(.ref d5), (.ref d6)]) (S' := [(.ref a598)]) (Wd := 1) dbg56 rfl rfl rfl rfl (by decide) rfl pd_19 rfl rfl (Nat.le_of_ble_eq_true rfl)) (rm_ri l Z a0 hw hEL n0 a598 d5 d6 _ A601 F_numerator_a598 F_denominator_a598) rfl rfl (by simp) (by decide) (by decide) (by decide) (by decide) rfl fun v_ h609 P610 sz611 => ?_
  obtain ⟨rfl, K2, E2, N2, D2⟩ := P610
  replace K := K.trans K2 (allS (Or.inr sz_a598) all0)
  refine at' (ce' := 22) (sl' := 62) (pc' := 59) (S' := [(.ref a598)]) rfl rfl rfl rfl rfl ?_
  exact retA dbg59 rfl rfl rfl (by decide) (by decide) ⟨a598, rfl, keepExt K, E2, d5, d6, N2, D2, Ba0.keepR K2 Er0 (hw _ (List.mem_of_getElem? (i := 5) rfl)), Bb0.keepR K2 Er0 (hw _ (List.mem_of_getElem? (i := 5) rfl))⟩
set_option maxRecDepth 65536 in
set_option maxHeartbeats 40000000 in
theorem rm_oBB1 (l : Launch) (Z : State) (a0 : Array Value) (hw : ∀ d ∈ tables_1, d.before a0 Z = true) (hEL : EW Z a0 []) (n0 : Nat) (a b : Addr) (s : Int32) (x : Int32) (h : Heap)  (hC : Caches Z) (Ha : BIc Z h a s [x]) (Hb : BIc Z h b 1 [1]) (hs : ¬ s = 0) (hx : ¬ x = 0) :
    Met l true Z [] n0 (⟨"com/example/varuna/varuna/Rational", "of", "(Ljava/math/BigInteger;Ljava/math/BigInteger;)Lcom/example/varuna/varuna/Rational;"⟩ : MethodName) prog_5_method_4_code 3 (some (.object "com/example/varuna/varuna/Rational")) ({ frames := 6, cells := 22, slots := 62, locals := 150 } : Room) [] #[(.ref a), (.ref b)] [] h (fun v h' => ∃ r : Addr, v = some (.ref r) ∧ Ext h h' ∧ RT Z h' r s [x]) := by
  refine Met.of_body (a0 := a0) (L0 := #[.val (.ref a), .val (.ref b), .unset]) (plainFor_of_name (by first | (simp [plainName, overriddenIn]; done) | decide +kernel)) (fun m => by first | rfl | (simp [entryFrame, mkF, argsToLocals, Value.category]; done)) hw hEL (by decide) ?_
  have K : Keep h h [] := Keep.refl _ _
  refine aloadN (pc' := 1) dbg0 rfl rfl rfl ?_
  refine call (i := 33) (i2 := 8) (Wd := 0) (pc' := 4) (kVirt (i := 29) (i2 := 30) (i3 := 32) (i4 := 31) (C := "java/math/BigInteger") (a := b) (argsL := []) (S' := []) (Wd := 0) dbg1 rfl rfl rfl rfl (Hb.1.ext (keepExt K)) (by decide) rfl pd_6 rfl rfl (Nat.le_of_ble_eq_true rfl)) (rm_sig l Z a0 hw hEL n0 b 1 _ (Hb.2.1.ext (keepExt K))) rfl rfl (by simp) (by decide) (by decide) (by decide) (by decide) rfl fun v_ h612 P613 sz614 => ?_
  obtain ⟨rfl, e615⟩ := P613
  rw [e615]
  refine at' (ce' := 0) (sl' := 0) (pc' := 4) (S' := [(.int (1 : Int32))]) rfl rfl rfl rfl rfl ?_
  refine ifT (pc' := 24) dbg4 (by decide : ¬ ((1 : Int32) = (0 : Int32))) (by decide) rfl ?_
  refine aloadN (pc' := 25) dbg24 rfl rfl rfl ?_
  refine aloadN (pc' := 26) dbg25 rfl rfl rfl ?_
  refine call (i := 40) (i2 := 8) (Wd := 0) (pc' := 29) (kVirt (i := 36) (i2 := 37) (i3 := 39) (i4 := 38) (C := "java/math/BigInteger") (a := a) (argsL := [(.ref b)]) (S' := []) (Wd := 0) dbg26 rfl rfl rfl rfl (Ha.1) (by decide) rfl pd_16 rfl rfl (Nat.le_of_ble_eq_true rfl)) (rm_gcd1 l Z a0 hw hEL n0 a b s x _ Ha Hb hs hx) rfl rfl (by simp) (by decide) (by decide) (by decide) (by decide) rfl fun v_ h616 P617 sz618 => ?_
  obtain ⟨g, rfl, X1, G1⟩ := P617
  replace K := K.ext X1
  refine at' (ce' := 9) (sl' := 24) (pc' := 29) (S' := [(.ref g)]) rfl rfl rfl rfl rfl ?_
  refine astoreN (pc' := 30) (L' := #[.val (.ref a), .val (.ref b), .val (.ref g)]) dbg29 rfl rfl rfl ?_
  refine aloadN (pc' := 31) dbg30 rfl rfl rfl ?_
  refine call (i := 33) (i2 := 8) (Wd := 0) (pc' := 34) (kVirt (i := 29) (i2 := 30) (i3 := 32) (i4 := 31) (C := "java/math/BigInteger") (a := b) (argsL := []) (S' := []) (Wd := 0) dbg31 rfl rfl rfl rfl (Hb.1.ext (keepExt K)) (by decide) rfl pd_6 rfl rfl (Nat.le_of_ble_eq_true rfl)) (rm_sig l Z a0 hw hEL n0 b 1 _ (Hb.2.1.ext (keepExt K))) rfl rfl (by simp) (by decide) (by decide) (by decide) (by decide) rfl fun v_ h619 P620 sz621 => ?_
  obtain ⟨rfl, e622⟩ := P620
  rw [e622]
  refine at' (ce' := 9) (sl' := 24) (pc' := 34) (S' := [(.int (1 : Int32))]) rfl rfl rfl rfl rfl ?_
  refine ifT (pc' := 42) dbg34 (by decide : ¬ ((1 : Int32) < (0 : Int32))) (by decide) rfl ?_
  refine new (i := 4) (i2 := 5) (i3 := 2) (pc' := 45) dbg42 rfl rfl rfl (by decide) (by decide) rfl fun h623 a624 g625 E626 A627 D628 => ?_
  have sz_a624 : h.size ≤ a624 := by rw [g625]; exact K.1
  replace K := K.ext E626
  replace G1 := G1.ext E626
  have F_numerator_a624 : Fld Z h623 a624 "com/example/varuna/varuna/Rational" "numerator" "Ljava/math/BigInteger;" .null := D628 (Or.inr (hw _ (List.mem_of_getElem? (i := 20) rfl))) (ty := (.object "java/math/BigInteger")) (by decide)
  have F_denominator_a624 : Fld Z h623 a624 "com/example/varuna/varuna/Rational" "denominator" "Ljava/math/BigInteger;" .null := D628 (Or.inr (hw _ (List.mem_of_getElem? (i := 22) rfl))) (ty := (.object "java/math/BigInteger")) (by decide)
  refine dup (pc' := 46) dbg45 rfl rfl ?_
  refine aloadN (pc' := 47) dbg46 rfl rfl rfl ?_
  refine aloadN (pc' := 48) dbg47 rfl rfl rfl ?_
  refine call (i := 137) (i2 := 8) (Wd := 2) (pc' := 51) (kVirt (i := 133) (i2 := 134) (i3 := 136) (i4 := 135) (C := "java/math/BigInteger") (a := a) (argsL := [(.ref g)]) (S' := [(.ref a624), (.ref a624)]) (Wd := 2) dbg48 rfl rfl rfl rfl (Ha.1.ext (keepExt K)) (by decide) rfl pd_16 rfl rfl (Nat.le_of_ble_eq_true rfl)) (rm_div1 l Z a0 hw hEL n0 a g s x _ hC (Ha.bi.ext (keepExt K)) G1 hs hx) rfl rfl (by simp) (by decide) (by decide) (by decide) (by decide) rfl fun v_ h629 P630 sz631 => ?_
  obtain ⟨d5, rfl, X5, D5⟩ := P630
  replace K := K.ext X5
  replace A627 := A627.ext X5
  replace F_numerator_a624 := F_numerator_a624.ext X5
  replace F_denominator_a624 := F_denominator_a624.ext X5
  replace G1 := G1.ext X5
  refine at' (ce' := 16) (sl' := 44) (pc' := 51) (S' := [(.ref d5), (.ref a624), (.ref a624)]) rfl rfl rfl rfl rfl ?_
  refine aloadN (pc' := 52) dbg51 rfl rfl rfl ?_
  refine aloadN (pc' := 53) dbg52 rfl rfl rfl ?_
  refine call (i := 137) (i2 := 8) (Wd := 3) (pc' := 56) (kVirt (i := 133) (i2 := 134) (i3 := 136) (i4 := 135) (C := "java/math/BigInteger") (a := b) (argsL := [(.ref g)]) (S' := [(.ref d5), (.ref a624), (.ref a624)]) (Wd := 3) dbg53 rfl rfl rfl rfl (Hb.1.ext (keepExt K)) (by decide) rfl pd_16 rfl rfl (Nat.le_of_ble_eq_true rfl)) (rm_div1 l Z a0 hw hEL n0 b g 1 1 _ hC (Hb.bi.ext (keepExt K)) G1 (by decide) (by decide)) rfl rfl (by simp) (by decide) (by decide) (by decide) (by decide) rfl fun v_ h632 P633 sz634 => ?_
  obtain ⟨d6, rfl, X6, D6⟩ := P633
  replace K := K.ext X6
  replace A627 := A627.ext X6
  replace F_numerator_a624 := F_numerator_a624.ext X6
  replace F_denominator_a624 := F_denominator_a624.ext X6
  replace G1 := G1.ext X6
  replace D5 := D5.ext X6
  refine at' (ce' := 22) (sl' := 62) (pc' := 56) (S' := [(.ref d6), (.ref d5), (.ref a624), (.ref a624)]) rfl rfl rfl rfl rfl ?_
  have Ba0 := D5
  have Bb0 := D6
  have Er0 := A627
  refine call (i := 15) (i2 := 2) (Wd := 1) (pc' := 59) (kInit (i := 13) (i2 := 14) (i4 := 15) (a := a624) (argsL := [(.ref d5), (.ref d6)]) (S' := [(.ref a624)]) (Wd := 1) dbg56 rfl rfl rfl rfl (by decide) rfl pd_19 rfl rfl (Nat.le_of_ble_eq_true rfl)) (rm_ri l Z a0 hw hEL n0 a624 d5 d6 _ A627 F_numerator_a624 F_denominator_a624) rfl rfl (by simp) (by decide) (by decide) (by decide) (by decide) rfl fun v_ h635 P636 sz637 => ?_
  obtain ⟨rfl, K2, E2, N2, D2⟩ := P636
  replace K := K.trans K2 (allS (Or.inr sz_a624) all0)
  refine at' (ce' := 22) (sl' := 62) (pc' := 59) (S' := [(.ref a624)]) rfl rfl rfl rfl rfl ?_
  exact retA dbg59 rfl rfl rfl (by decide) (by decide) ⟨a624, rfl, keepExt K, E2, d5, d6, N2, D2, Ba0.keepR K2 Er0 (hw _ (List.mem_of_getElem? (i := 5) rfl)), Bb0.keepR K2 Er0 (hw _ (List.mem_of_getElem? (i := 5) rfl))⟩
set_option maxRecDepth 65536 in
set_option maxHeartbeats 40000000 in
theorem rm_oBB2 (l : Launch) (Z : State) (a0 : Array Value) (hw : ∀ d ∈ tables_1, d.before a0 Z = true) (hEL : EW Z a0 []) (n0 : Nat) (a b : Addr) (s : Int32) (x y : Int32) (h : Heap)  (hC : Caches Z) (Ha : BIc Z h a s [x, y]) (Hb : BIc Z h b 1 [1]) (hs : ¬ s = 0) (hx : ¬ x = 0) :
    Met l true Z [] n0 (⟨"com/example/varuna/varuna/Rational", "of", "(Ljava/math/BigInteger;Ljava/math/BigInteger;)Lcom/example/varuna/varuna/Rational;"⟩ : MethodName) prog_5_method_4_code 3 (some (.object "com/example/varuna/varuna/Rational")) ({ frames := 6, cells := 22, slots := 62, locals := 150 } : Room) [] #[(.ref a), (.ref b)] [] h (fun v h' => ∃ r : Addr, v = some (.ref r) ∧ Ext h h' ∧ RT Z h' r s [x, y]) := by
  refine Met.of_body (a0 := a0) (L0 := #[.val (.ref a), .val (.ref b), .unset]) (plainFor_of_name (by first | (simp [plainName, overriddenIn]; done) | decide +kernel)) (fun m => by first | rfl | (simp [entryFrame, mkF, argsToLocals, Value.category]; done)) hw hEL (by decide) ?_
  have K : Keep h h [] := Keep.refl _ _
  refine aloadN (pc' := 1) dbg0 rfl rfl rfl ?_
  refine call (i := 33) (i2 := 8) (Wd := 0) (pc' := 4) (kVirt (i := 29) (i2 := 30) (i3 := 32) (i4 := 31) (C := "java/math/BigInteger") (a := b) (argsL := []) (S' := []) (Wd := 0) dbg1 rfl rfl rfl rfl (Hb.1.ext (keepExt K)) (by decide) rfl pd_6 rfl rfl (Nat.le_of_ble_eq_true rfl)) (rm_sig l Z a0 hw hEL n0 b 1 _ (Hb.2.1.ext (keepExt K))) rfl rfl (by simp) (by decide) (by decide) (by decide) (by decide) rfl fun v_ h638 P639 sz640 => ?_
  obtain ⟨rfl, e641⟩ := P639
  rw [e641]
  refine at' (ce' := 0) (sl' := 0) (pc' := 4) (S' := [(.int (1 : Int32))]) rfl rfl rfl rfl rfl ?_
  refine ifT (pc' := 24) dbg4 (by decide : ¬ ((1 : Int32) = (0 : Int32))) (by decide) rfl ?_
  refine aloadN (pc' := 25) dbg24 rfl rfl rfl ?_
  refine aloadN (pc' := 26) dbg25 rfl rfl rfl ?_
  refine call (i := 40) (i2 := 8) (Wd := 0) (pc' := 29) (kVirt (i := 36) (i2 := 37) (i3 := 39) (i4 := 38) (C := "java/math/BigInteger") (a := a) (argsL := [(.ref b)]) (S' := []) (Wd := 0) dbg26 rfl rfl rfl rfl (Ha.1) (by decide) rfl pd_16 rfl rfl (Nat.le_of_ble_eq_true rfl)) (rm_gcd2 l Z a0 hw hEL n0 a b s x y _ Ha Hb hs hx) rfl rfl (by simp) (by decide) (by decide) (by decide) (by decide) rfl fun v_ h642 P643 sz644 => ?_
  obtain ⟨g, rfl, X1, G1⟩ := P643
  replace K := K.ext X1
  refine at' (ce' := 9) (sl' := 24) (pc' := 29) (S' := [(.ref g)]) rfl rfl rfl rfl rfl ?_
  refine astoreN (pc' := 30) (L' := #[.val (.ref a), .val (.ref b), .val (.ref g)]) dbg29 rfl rfl rfl ?_
  refine aloadN (pc' := 31) dbg30 rfl rfl rfl ?_
  refine call (i := 33) (i2 := 8) (Wd := 0) (pc' := 34) (kVirt (i := 29) (i2 := 30) (i3 := 32) (i4 := 31) (C := "java/math/BigInteger") (a := b) (argsL := []) (S' := []) (Wd := 0) dbg31 rfl rfl rfl rfl (Hb.1.ext (keepExt K)) (by decide) rfl pd_6 rfl rfl (Nat.le_of_ble_eq_true rfl)) (rm_sig l Z a0 hw hEL n0 b 1 _ (Hb.2.1.ext (keepExt K))) rfl rfl (by simp) (by decide) (by decide) (by decide) (by decide) rfl fun v_ h645 P646 sz647 => ?_
  obtain ⟨rfl, e648⟩ := P646
  rw [e648]
  refine at' (ce' := 9) (sl' := 24) (pc' := 34) (S' := [(.int (1 : Int32))]) rfl rfl rfl rfl rfl ?_
  refine ifT (pc' := 42) dbg34 (by decide : ¬ ((1 : Int32) < (0 : Int32))) (by decide) rfl ?_
  refine new (i := 4) (i2 := 5) (i3 := 2) (pc' := 45) dbg42 rfl rfl rfl (by decide) (by decide) rfl fun h649 a650 g651 E652 A653 D654 => ?_
  have sz_a650 : h.size ≤ a650 := by rw [g651]; exact K.1
  replace K := K.ext E652
  replace G1 := G1.ext E652
  have F_numerator_a650 : Fld Z h649 a650 "com/example/varuna/varuna/Rational" "numerator" "Ljava/math/BigInteger;" .null := D654 (Or.inr (hw _ (List.mem_of_getElem? (i := 20) rfl))) (ty := (.object "java/math/BigInteger")) (by decide)
  have F_denominator_a650 : Fld Z h649 a650 "com/example/varuna/varuna/Rational" "denominator" "Ljava/math/BigInteger;" .null := D654 (Or.inr (hw _ (List.mem_of_getElem? (i := 22) rfl))) (ty := (.object "java/math/BigInteger")) (by decide)
  refine dup (pc' := 46) dbg45 rfl rfl ?_
  refine aloadN (pc' := 47) dbg46 rfl rfl rfl ?_
  refine aloadN (pc' := 48) dbg47 rfl rfl rfl ?_
  refine call (i := 137) (i2 := 8) (Wd := 2) (pc' := 51) (kVirt (i := 133) (i2 := 134) (i3 := 136) (i4 := 135) (C := "java/math/BigInteger") (a := a) (argsL := [(.ref g)]) (S' := [(.ref a650), (.ref a650)]) (Wd := 2) dbg48 rfl rfl rfl rfl (Ha.1.ext (keepExt K)) (by decide) rfl pd_16 rfl rfl (Nat.le_of_ble_eq_true rfl)) (rm_div2 l Z a0 hw hEL n0 a g s x y _ hC (Ha.bi.ext (keepExt K)) G1 hs hx) rfl rfl (by simp) (by decide) (by decide) (by decide) (by decide) rfl fun v_ h655 P656 sz657 => ?_
  obtain ⟨d5, rfl, X5, D5⟩ := P656
  replace K := K.ext X5
  replace A653 := A653.ext X5
  replace F_numerator_a650 := F_numerator_a650.ext X5
  replace F_denominator_a650 := F_denominator_a650.ext X5
  replace G1 := G1.ext X5
  refine at' (ce' := 16) (sl' := 44) (pc' := 51) (S' := [(.ref d5), (.ref a650), (.ref a650)]) rfl rfl rfl rfl rfl ?_
  refine aloadN (pc' := 52) dbg51 rfl rfl rfl ?_
  refine aloadN (pc' := 53) dbg52 rfl rfl rfl ?_
  refine call (i := 137) (i2 := 8) (Wd := 3) (pc' := 56) (kVirt (i := 133) (i2 := 134) (i3 := 136) (i4 := 135) (C := "java/math/BigInteger") (a := b) (argsL := [(.ref g)]) (S' := [(.ref d5), (.ref a650), (.ref a650)]) (Wd := 3) dbg53 rfl rfl rfl rfl (Hb.1.ext (keepExt K)) (by decide) rfl pd_16 rfl rfl (Nat.le_of_ble_eq_true rfl)) (rm_div1 l Z a0 hw hEL n0 b g 1 1 _ hC (Hb.bi.ext (keepExt K)) G1 (by decide) (by decide)) rfl rfl (by simp) (by decide) (by decide) (by decide) (by decide) rfl fun v_ h658 P659 sz660 => ?_
  obtain ⟨d6, rfl, X6, D6⟩ := P659
  replace K := K.ext X6
  replace A653 := A653.ext X6
  replace F_numerator_a650 := F_numerator_a650.ext X6
  replace F_denominator_a650 := F_denominator_a650.ext X6
  replace G1 := G1.ext X6
  replace D5 := D5.ext X6
  refine at' (ce' := 22) (sl' := 62) (pc' := 56) (S' := [(.ref d6), (.ref d5), (.ref a650), (.ref a650)]) rfl rfl rfl rfl rfl ?_
  have Ba0 := D5
  have Bb0 := D6
  have Er0 := A653
  refine call (i := 15) (i2 := 2) (Wd := 1) (pc' := 59) (kInit (i := 13) (i2 := 14) (i4 := 15) (a := a650) (argsL := [(.ref d5), (.ref d6)]) (S' := [(.ref a650)]) (Wd := 1) dbg56 rfl rfl rfl rfl (by decide) rfl pd_19 rfl rfl (Nat.le_of_ble_eq_true rfl)) (rm_ri l Z a0 hw hEL n0 a650 d5 d6 _ A653 F_numerator_a650 F_denominator_a650) rfl rfl (by simp) (by decide) (by decide) (by decide) (by decide) rfl fun v_ h661 P662 sz663 => ?_
  obtain ⟨rfl, K2, E2, N2, D2⟩ := P662
  replace K := K.trans K2 (allS (Or.inr sz_a650) all0)
  refine at' (ce' := 22) (sl' := 62) (pc' := 59) (S' := [(.ref a650)]) rfl rfl rfl rfl rfl ?_
  exact retA dbg59 rfl rfl rfl (by decide) (by decide) ⟨a650, rfl, keepExt K, E2, d5, d6, N2, D2, Ba0.keepR K2 Er0 (hw _ (List.mem_of_getElem? (i := 5) rfl)), Bb0.keepR K2 Er0 (hw _ (List.mem_of_getElem? (i := 5) rfl))⟩
set_option maxRecDepth 65536 in
set_option maxHeartbeats 40000000 in
theorem rm_oJJ (l : Launch) (Z : State) (a0 : Array Value) (hw : ∀ d ∈ tables_1, d.before a0 Z = true) (hEL : EW Z a0 []) (n0 : Nat) (n : Int64) (h : Heap)  (hC : Caches Z) :
    Met l true Z [] n0 (⟨"com/example/varuna/varuna/Rational", "of", "(JJ)Lcom/example/varuna/varuna/Rational;"⟩ : MethodName) prog_5_method_3_code 4 (some (.object "com/example/varuna/varuna/Rational")) ({ frames := 7, cells := 26, slots := 78, locals := 170 } : Room) [] #[(.long n), (.long (1 : Int64))] [] h (fun v h' => ∃ r : Addr, v = some (.ref r) ∧ Ext h h' ∧ RT Z h' r (sgn n) (mag n)) := by
  refine Met.of_body (a0 := a0) (L0 := #[.val (.long n), .second, .val (.long (1 : Int64)), .second]) (plainFor_of_name (by first | (simp [plainName, overriddenIn]; done) | decide +kernel)) (fun m => by first | rfl | (simp [entryFrame, mkF, argsToLocals, Value.category]; done)) hw hEL (by decide) ?_
  have K : Keep h h [] := Keep.refl _ _
  refine lloadN (pc' := 1) dbh0 rfl rfl ?_
  refine call (i := 9) (i2 := 8) (Wd := 0) (pc' := 4) (kStatic (i := 6) (i2 := 7) (i3 := 8) (i4 := 9) (argsL := [(.long n)]) (S' := []) (Wd := 0) dbh1 rfl rfl rfl rfl (by decide) rfl pd_18 rfl rfl (Nat.le_of_ble_eq_true rfl)) (rm_vo l Z a0 hw hEL n0 n _ hC) rfl rfl (by simp) (by decide) (by decide) (by decide) (by decide) rfl fun v_ h664 P665 sz666 => ?_
  obtain ⟨g, rfl, X1, B1⟩ := P665
  replace K := K.ext X1
  refine at' (ce' := 2) (sl' := 8) (pc' := 4) (S' := [(.ref g)]) rfl rfl rfl rfl rfl ?_
  refine lloadN (pc' := 5) dbh4 rfl rfl ?_
  refine call (i := 9) (i2 := 8) (Wd := 1) (pc' := 8) (kStatic (i := 6) (i2 := 7) (i3 := 8) (i4 := 9) (argsL := [(.long (1 : Int64))]) (S' := [(.ref g)]) (Wd := 1) dbh5 rfl rfl rfl rfl (by decide) rfl pd_18 rfl rfl (Nat.le_of_ble_eq_true rfl)) (rm_vo l Z a0 hw hEL n0 1 _ hC) rfl rfl (by simp) (by decide) (by decide) (by decide) (by decide) rfl fun v_ h667 P668 sz669 => ?_
  obtain ⟨g2, rfl, X2, B2⟩ := P668
  replace K := K.ext X2
  replace B1 := B1.ext X2
  rw [show sgn 1 = 1 from by decide, show mag 1 = [1] from by decide] at B2
  refine at' (ce' := 4) (sl' := 16) (pc' := 8) (S' := [(.ref g2), (.ref g)]) rfl rfl rfl rfl rfl ?_
  have hok := ok_of n
  generalize sgn n = s at hok B1 ⊢
  generalize mag n = ms at hok B1 ⊢
  rcases hok with ⟨rfl, rfl⟩ | ⟨hs, ⟨x, rfl, hx⟩ | ⟨x, y, rfl, hx⟩⟩
  · skip
    refine call (i := 28) (i2 := 2) (Wd := 0) (pc' := 11) (kStatic (i := 26) (i2 := 27) (i3 := 2) (i4 := 28) (argsL := [(.ref g), (.ref g2)]) (S' := []) (Wd := 0) dbh8 rfl rfl rfl rfl (by decide) rfl pd_20 rfl rfl (Nat.le_of_ble_eq_true rfl)) (rm_oBB0 l Z a0 hw hEL n0 g g2 0 _ hC B1 B2) rfl rfl (by simp) (by decide) (by decide) (by decide) (by decide) rfl fun v_ h670 P671 sz672 => ?_
    obtain ⟨r, rfl, X3, R3⟩ := P671
    replace K := K.ext X3
    refine at' (ce' := 26) (sl' := 78) (pc' := 11) (S' := [(.ref r)]) rfl rfl rfl rfl rfl ?_
    exact retA dbh11 rfl rfl rfl (by decide) (by decide) ⟨r, rfl, keepExt K, R3⟩
  · skip
    have hs : ¬ s = 0 := by rcases hs with rfl | rfl <;> decide
    refine call (i := 28) (i2 := 2) (Wd := 0) (pc' := 11) (kStatic (i := 26) (i2 := 27) (i3 := 2) (i4 := 28) (argsL := [(.ref g), (.ref g2)]) (S' := []) (Wd := 0) dbh8 rfl rfl rfl rfl (by decide) rfl pd_20 rfl rfl (Nat.le_of_ble_eq_true rfl)) (rm_oBB1 l Z a0 hw hEL n0 g g2 s x _ hC B1 B2 hs hx) rfl rfl (by simp) (by decide) (by decide) (by decide) (by decide) rfl fun v_ h673 P674 sz675 => ?_
    obtain ⟨r, rfl, X3, R3⟩ := P674
    replace K := K.ext X3
    refine at' (ce' := 26) (sl' := 78) (pc' := 11) (S' := [(.ref r)]) rfl rfl rfl rfl rfl ?_
    exact retA dbh11 rfl rfl rfl (by decide) (by decide) ⟨r, rfl, keepExt K, R3⟩
  · skip
    have hs : ¬ s = 0 := by rcases hs with rfl | rfl <;> decide
    refine call (i := 28) (i2 := 2) (Wd := 0) (pc' := 11) (kStatic (i := 26) (i2 := 27) (i3 := 2) (i4 := 28) (argsL := [(.ref g), (.ref g2)]) (S' := []) (Wd := 0) dbh8 rfl rfl rfl rfl (by decide) rfl pd_20 rfl rfl (Nat.le_of_ble_eq_true rfl)) (rm_oBB2 l Z a0 hw hEL n0 g g2 s x y _ hC B1 B2 hs hx) rfl rfl (by simp) (by decide) (by decide) (by decide) (by decide) rfl fun v_ h676 P677 sz678 => ?_
    obtain ⟨r, rfl, X3, R3⟩ := P677
    replace K := K.ext X3
    refine at' (ce' := 26) (sl' := 78) (pc' := 11) (S' := [(.ref r)]) rfl rfl rfl rfl rfl ?_
    exact retA dbh11 rfl rfl rfl (by decide) (by decide) ⟨r, rfl, keepExt K, R3⟩
set_option maxRecDepth 65536 in
set_option maxHeartbeats 40000000 in
theorem rm_sh1 (l : Launch) (Z : State) (a0 : Array Value) (hw : ∀ d ∈ tables_1, d.before a0 Z = true) (hEL : EW Z a0 []) (n0 : Nat) (t : Addr) (k : ClassId) (x : Int32) (h : Heap) (At : Arv Z h t k .int (1 : Int32) [(.int x)] (.int (0 : Int32)))  :
    Met l true Z [] n0 (⟨"java/math/BigInteger", "shiftLeft", "([II)[I"⟩ : MethodName) jdk_2097_method_102_code 10 (some (.array .int)) ({ frames := 1, cells := 1, slots := 2, locals := 50 } : Room) [] #[(.ref t), (.int (0 : Int32))] [] h (fun v h' => ∃ (r : Addr) (kr : ClassId), v = some (.ref r) ∧ Ext h h' ∧ Arv Z h' r kr .int (1 : Int32) [(.int x)] (.int (0 : Int32))) := by
  refine Met.of_body (a0 := a0) (L0 := #[.val (.ref t), .val (.int (0 : Int32)), .unset, .unset, .unset, .unset, .unset, .unset, .unset, .unset]) (plainFor_of_name (by first | (simp [plainName, overriddenIn]; done) | decide +kernel)) (fun m => by first | (simp [entryFrame, mkF, argsToLocals, Value.category]; done) | rfl) hw hEL (by decide) ?_
  have K : Keep h h [] := Keep.refl _ _
  refine iloadN (pc' := 1) dbi0 rfl rfl ?_
  refine iconst (pc' := 2) (v := (5 : Int32)) dbi1 rfl rfl ?_
  refine iushr (pc' := 3) dbi2 rfl ?_
  rw [show (((0 : Int32).toUInt32 >>> ((5 : Int32) &&& 31).toUInt32).toInt32) = (0 : Int32) from by decide]
  refine istoreN (pc' := 4) (L' := #[.val (.ref t), .val (.int (0 : Int32)), .val (.int (0 : Int32)), .unset, .unset, .unset, .unset, .unset, .unset, .unset]) dbi3 rfl rfl ?_
  refine iloadN (pc' := 5) dbi4 rfl rfl ?_
  refine bipush (pc' := 7) (v := (31 : Int32)) dbi5 rfl rfl ?_
  refine iand (pc' := 8) dbi7 rfl ?_
  rw [show ((0 : Int32) &&& (31 : Int32)) = (0 : Int32) from by decide]
  refine istoreN (pc' := 9) (L' := #[.val (.ref t), .val (.int (0 : Int32)), .val (.int (0 : Int32)), .val (.int (0 : Int32)), .unset, .unset, .unset, .unset, .unset, .unset]) dbi8 rfl rfl ?_
  refine aloadN (pc' := 10) dbi9 rfl rfl rfl ?_
  refine arraylength (pc' := 11) dbi10 At rfl ?_
  refine istore (pc' := 13) (L' := #[.val (.ref t), .val (.int (0 : Int32)), .val (.int (0 : Int32)), .val (.int (0 : Int32)), .val (.int (1 : Int32)), .unset, .unset, .unset, .unset, .unset]) dbi11 rfl rfl ?_
  refine aconst_null (pc' := 14) dbi13 rfl ?_
  refine astore (pc' := 16) (L' := #[.val (.ref t), .val (.int (0 : Int32)), .val (.int (0 : Int32)), .val (.int (0 : Int32)), .val (.int (1 : Int32)), .val .null, .unset, .unset, .unset, .unset]) dbi14 rfl rfl rfl ?_
  refine iloadN (pc' := 17) dbi16 rfl rfl ?_
  refine ifF (pc' := 20) dbi17 (rfl : (0 : Int32) = (0 : Int32)) rfl ?_
  refine iload (pc' := 22) dbi20 rfl rfl ?_
  refine iloadN (pc' := 23) dbi22 rfl rfl ?_
  refine iadd (pc' := 24) dbi23 rfl ?_
  rw [show ((1 : Int32) + (0 : Int32)) = (1 : Int32) from by decide]
  refine newarray (i := 79) (cap := 1) (ty := .int) (pc' := 26) dbi24 rfl rfl (by decide) (by decide) (by decide) (by decide) (by decide) rfl fun h679 a680 kc684 g681 E682 V683 => ?_
  have sz_a680 : h.size ≤ a680 := by rw [g681]; exact K.1
  have ne_t_a680 : t ≠ a680 := Nat.ne_of_lt (by rw [g681]; exact At.lt)
  replace K := K.ext E682
  replace At := At.ext E682
  replace V683 : Arv Z h679 a680 kc684 .int (1 : Int32) [(.int (0 : Int32))] (.int (0 : Int32)) := V683.pad (pad_rep [] (.int (0 : Int32)) 1)
  refine astore (pc' := 28) (L' := #[.val (.ref t), .val (.int (0 : Int32)), .val (.int (0 : Int32)), .val (.int (0 : Int32)), .val (.int (1 : Int32)), .val (.ref a680), .unset, .unset, .unset, .unset]) dbi26 rfl rfl rfl ?_
  refine aloadN (pc' := 29) dbi28 rfl rfl rfl ?_
  refine iconst (pc' := 30) (v := (0 : Int32)) dbi29 rfl rfl ?_
  refine aload (pc' := 32) dbi30 rfl rfl rfl ?_
  refine iconst (pc' := 33) (v := (0 : Int32)) dbi32 rfl rfl ?_
  refine iload (pc' := 35) dbi33 rfl rfl ?_
  refine copyArr (i1 := 208) (i2 := 211) (i3 := 209) (i4 := 210) (Wd := 0) (pc' := 38) dbi35 rfl rfl rfl rfl At V683 rfl (by decide) (by decide) (by decide) (by decide) (by decide) (by decide) (by simp) rfl (by decide) (by decide) (by decide) rfl fun hz Kz Az => ?_
  replace K := K.trans Kz (allS (Or.inr sz_a680) all0)
  refine goto (pc' := 152) dbi38 (by decide) rfl ?_
  refine aload (pc' := 154) dbi152 rfl rfl rfl ?_
  exact retA dbi154 rfl rfl rfl (by decide) (by decide) ⟨a680, kc684, rfl, keepExt K, Az⟩
set_option maxRecDepth 65536 in
set_option maxHeartbeats 40000000 in
theorem rm_sh2 (l : Launch) (Z : State) (a0 : Array Value) (hw : ∀ d ∈ tables_1, d.before a0 Z = true) (hEL : EW Z a0 []) (n0 : Nat) (t : Addr) (k : ClassId) (x y : Int32) (h : Heap) (At : Arv Z h t k .int (2 : Int32) [(.int x), (.int y)] (.int (0 : Int32)))  :
    Met l true Z [] n0 (⟨"java/math/BigInteger", "shiftLeft", "([II)[I"⟩ : MethodName) jdk_2097_method_102_code 10 (some (.array .int)) ({ frames := 1, cells := 1, slots := 2, locals := 50 } : Room) [] #[(.ref t), (.int (0 : Int32))] [] h (fun v h' => ∃ (r : Addr) (kr : ClassId), v = some (.ref r) ∧ Ext h h' ∧ Arv Z h' r kr .int (2 : Int32) [(.int x), (.int y)] (.int (0 : Int32))) := by
  refine Met.of_body (a0 := a0) (L0 := #[.val (.ref t), .val (.int (0 : Int32)), .unset, .unset, .unset, .unset, .unset, .unset, .unset, .unset]) (plainFor_of_name (by first | (simp [plainName, overriddenIn]; done) | decide +kernel)) (fun m => by first | (simp [entryFrame, mkF, argsToLocals, Value.category]; done) | rfl) hw hEL (by decide) ?_
  have K : Keep h h [] := Keep.refl _ _
  refine iloadN (pc' := 1) dbi0 rfl rfl ?_
  refine iconst (pc' := 2) (v := (5 : Int32)) dbi1 rfl rfl ?_
  refine iushr (pc' := 3) dbi2 rfl ?_
  rw [show (((0 : Int32).toUInt32 >>> ((5 : Int32) &&& 31).toUInt32).toInt32) = (0 : Int32) from by decide]
  refine istoreN (pc' := 4) (L' := #[.val (.ref t), .val (.int (0 : Int32)), .val (.int (0 : Int32)), .unset, .unset, .unset, .unset, .unset, .unset, .unset]) dbi3 rfl rfl ?_
  refine iloadN (pc' := 5) dbi4 rfl rfl ?_
  refine bipush (pc' := 7) (v := (31 : Int32)) dbi5 rfl rfl ?_
  refine iand (pc' := 8) dbi7 rfl ?_
  rw [show ((0 : Int32) &&& (31 : Int32)) = (0 : Int32) from by decide]
  refine istoreN (pc' := 9) (L' := #[.val (.ref t), .val (.int (0 : Int32)), .val (.int (0 : Int32)), .val (.int (0 : Int32)), .unset, .unset, .unset, .unset, .unset, .unset]) dbi8 rfl rfl ?_
  refine aloadN (pc' := 10) dbi9 rfl rfl rfl ?_
  refine arraylength (pc' := 11) dbi10 At rfl ?_
  refine istore (pc' := 13) (L' := #[.val (.ref t), .val (.int (0 : Int32)), .val (.int (0 : Int32)), .val (.int (0 : Int32)), .val (.int (2 : Int32)), .unset, .unset, .unset, .unset, .unset]) dbi11 rfl rfl ?_
  refine aconst_null (pc' := 14) dbi13 rfl ?_
  refine astore (pc' := 16) (L' := #[.val (.ref t), .val (.int (0 : Int32)), .val (.int (0 : Int32)), .val (.int (0 : Int32)), .val (.int (2 : Int32)), .val .null, .unset, .unset, .unset, .unset]) dbi14 rfl rfl rfl ?_
  refine iloadN (pc' := 17) dbi16 rfl rfl ?_
  refine ifF (pc' := 20) dbi17 (rfl : (0 : Int32) = (0 : Int32)) rfl ?_
  refine iload (pc' := 22) dbi20 rfl rfl ?_
  refine iloadN (pc' := 23) dbi22 rfl rfl ?_
  refine iadd (pc' := 24) dbi23 rfl ?_
  rw [show ((2 : Int32) + (0 : Int32)) = (2 : Int32) from by decide]
  refine newarray (i := 79) (cap := 2) (ty := .int) (pc' := 26) dbi24 rfl rfl (by decide) (by decide) (by decide) (by decide) (by decide) rfl fun h685 a686 kc690 g687 E688 V689 => ?_
  have sz_a686 : h.size ≤ a686 := by rw [g687]; exact K.1
  have ne_t_a686 : t ≠ a686 := Nat.ne_of_lt (by rw [g687]; exact At.lt)
  replace K := K.ext E688
  replace At := At.ext E688
  replace V689 : Arv Z h685 a686 kc690 .int (2 : Int32) [(.int (0 : Int32)), (.int (0 : Int32))] (.int (0 : Int32)) := V689.pad (pad_rep [] (.int (0 : Int32)) 2)
  refine astore (pc' := 28) (L' := #[.val (.ref t), .val (.int (0 : Int32)), .val (.int (0 : Int32)), .val (.int (0 : Int32)), .val (.int (2 : Int32)), .val (.ref a686), .unset, .unset, .unset, .unset]) dbi26 rfl rfl rfl ?_
  refine aloadN (pc' := 29) dbi28 rfl rfl rfl ?_
  refine iconst (pc' := 30) (v := (0 : Int32)) dbi29 rfl rfl ?_
  refine aload (pc' := 32) dbi30 rfl rfl rfl ?_
  refine iconst (pc' := 33) (v := (0 : Int32)) dbi32 rfl rfl ?_
  refine iload (pc' := 35) dbi33 rfl rfl ?_
  refine copyArr (i1 := 208) (i2 := 211) (i3 := 209) (i4 := 210) (Wd := 0) (pc' := 38) dbi35 rfl rfl rfl rfl At V689 rfl (by decide) (by decide) (by decide) (by decide) (by decide) (by decide) (by simp) rfl (by decide) (by decide) (by decide) rfl fun hz Kz Az => ?_
  replace K := K.trans Kz (allS (Or.inr sz_a686) all0)
  refine goto (pc' := 152) dbi38 (by decide) rfl ?_
  refine aload (pc' := 154) dbi152 rfl rfl rfl ?_
  exact retA dbi154 rfl rfl rfl (by decide) (by decide) ⟨a686, kc690, rfl, keepExt K, Az⟩
set_option maxRecDepth 65536 in
set_option maxHeartbeats 40000000 in
theorem rm_mbi1 (l : Launch) (Z : State) (a0 : Array Value) (hw : ∀ d ∈ tables_1, d.before a0 Z = true) (hEL : EW Z a0 []) (n0 : Nat) (t : Addr) (k : ClassId) (s : Int32) (x : Int32) (h : Heap) (At : Arv Z h t k .int (1 : Int32) [(.int x)] (.int (0 : Int32)))  :
    Met l true Z [] n0 (⟨"java/math/BigInteger", "multiplyByInt", "([III)Ljava/math/BigInteger;"⟩ : MethodName) jdk_2097_method_43_code 13 (some (.object "java/math/BigInteger")) ({ frames := 3, cells := 2, slots := 8, locals := 80 } : Room) [] #[(.ref t), (.int (1 : Int32)), (.int s)] [] h (fun v h' => ∃ g : Addr, v = some (.ref g) ∧ Ext h h' ∧ BI Z h' g s [x]) := by
  refine Met.of_body (a0 := a0) (L0 := #[.val (.ref t), .val (.int (1 : Int32)), .val (.int s), .unset, .unset, .unset, .unset, .unset, .unset, .unset, .unset, .unset, .unset]) (plainFor_of_name (by first | (simp [plainName, overriddenIn]; done) | decide +kernel)) (fun m => by first | (simp [entryFrame, mkF, argsToLocals, Value.category]; done) | rfl) hw hEL (by decide) ?_
  have K : Keep h h [] := Keep.refl _ _
  refine iloadN (pc' := 1) dbj0 rfl rfl ?_
  refine callJP (v := .int (Jvm.Free.JP.Integer_bitCount_I.val (1 : Int32))) (pc' := 4) (kStatic (i := 198) (i2 := 199) (i3 := 96) (i4 := 200) (argsL := [(.int (1 : Int32))]) (S' := []) (Wd := 0) dbj1 rfl rfl rfl rfl (by decide) rfl pd_2 rfl rfl (Nat.le_of_ble_eq_true rfl)) (fun hZ hw => Jvm.Free.JP.Integer_bitCount_I.pays (W := 0) (1 : Int32) (own_bc hZ hw) (by decide) (by decide)) (fun _ => And.intro rfl trivial) (by decide) (by decide) rfl ?_
  rw [show (Jvm.Free.JP.Integer_bitCount_I.val (1 : Int32)) = (1 : Int32) from by decide]
  refine iconst (pc' := 5) (v := (1 : Int32)) dbj4 rfl rfl ?_
  refine icmpF (pc' := 8) dbj5 (rfl : (1 : Int32) = (1 : Int32)) rfl ?_
  refine new (i := 179) (i2 := 114) (i3 := 8) (pc' := 11) dbj8 rfl rfl rfl (by decide) (by decide) rfl fun h691 a692 g693 E694 A695 D696 => ?_
  have sz_a692 : h.size ≤ a692 := by rw [g693]; exact K.1
  have ne_t_a692 : t ≠ a692 := Nat.ne_of_lt (by rw [g693]; exact At.lt)
  replace K := K.ext E694
  replace At := At.ext E694
  have F_signum_a692 : Fld Z h691 a692 "java/math/BigInteger" "signum" "I" (.int (0 : Int32)) := D696 (Or.inr (hw _ (List.mem_of_getElem? (i := 35) rfl))) (ty := .int) (by decide)
  have F_mag_a692 : Fld Z h691 a692 "java/math/BigInteger" "mag" "[I" .null := D696 (Or.inr (hw _ (List.mem_of_getElem? (i := 52) rfl))) (ty := (.array .int)) (by decide)
  refine dup (pc' := 12) dbj11 rfl rfl ?_
  refine aloadN (pc' := 13) dbj12 rfl rfl rfl ?_
  refine iloadN (pc' := 14) dbj13 rfl rfl ?_
  refine callJP (v := .int (Jvm.Free.JP.Integer_numberOfTrailingZeros_I.val (1 : Int32))) (pc' := 17) (kStatic (i := 204) (i2 := 95) (i3 := 96) (i4 := 97) (argsL := [(.int (1 : Int32))]) (S' := [(.ref t), (.ref a692), (.ref a692)]) (Wd := 3) dbj14 rfl rfl rfl rfl (by decide) rfl pd_2 rfl rfl (Nat.le_of_ble_eq_true rfl)) (fun hZ hw => Jvm.Free.JP.Integer_numberOfTrailingZeros_I.pays (W := 3) (1 : Int32) (own_ntz hZ hw) (by decide) (by decide)) (fun _ => And.intro rfl trivial) (by decide) (by decide) rfl ?_
  rw [show (Jvm.Free.JP.Integer_numberOfTrailingZeros_I.val (1 : Int32)) = (0 : Int32) from by decide]
  refine call (i := 207) (i2 := 8) (Wd := 2) (pc' := 20) (kStatic (i := 205) (i2 := 206) (i3 := 8) (i4 := 207) (argsL := [(.ref t), (.int (0 : Int32))]) (S' := [(.ref a692), (.ref a692)]) (Wd := 2) dbj17 rfl rfl rfl rfl (by decide) rfl pd_1 rfl rfl (Nat.le_of_ble_eq_true rfl)) (rm_sh1 l Z a0 hw hEL n0 t k x _ At) rfl rfl (by simp) (by decide) (by decide) (by decide) (by decide) rfl fun v_ h697 P698 sz699 => ?_
  obtain ⟨r, kr, rfl, X1, A1⟩ := P698
  replace K := K.ext X1
  replace At := At.ext X1
  replace A695 := A695.ext X1
  replace F_signum_a692 := F_signum_a692.ext X1
  replace F_mag_a692 := F_mag_a692.ext X1
  refine at' (ce' := 2) (sl' := 8) (pc' := 20) (S' := [(.ref r), (.ref a692), (.ref a692)]) rfl rfl rfl rfl rfl ?_
  refine iloadN (pc' := 21) dbj20 rfl rfl ?_
  refine call (i := 123) (i2 := 8) (Wd := 1) (pc' := 24) (kInit (i := 212) (i2 := 121) (i4 := 123) (a := a692) (argsL := [(.ref r), (.int s)]) (S' := [(.ref a692)]) (Wd := 1) dbj21 rfl rfl rfl rfl (by decide) rfl pd_9 rfl rfl (Nat.le_of_ble_eq_true rfl)) (rm_bia1 l Z a0 hw hEL n0 a692 r kr s x _ A695 F_signum_a692 F_mag_a692 A1) rfl rfl (by simp) (by decide) (by decide) (by decide) (by decide) rfl fun v_ h700 P701 sz702 => ?_
  obtain ⟨rfl, K2, B2⟩ := P701
  replace K := K.trans K2 (allS (Or.inr sz_a692) all0)
  refine at' (ce' := 2) (sl' := 8) (pc' := 24) (S' := [(.ref a692)]) rfl rfl rfl rfl rfl ?_
  exact retA dbj24 rfl rfl rfl (by decide) (by decide) ⟨a692, rfl, keepExt K, B2⟩
set_option maxRecDepth 65536 in
set_option maxHeartbeats 40000000 in
theorem rm_mbi2 (l : Launch) (Z : State) (a0 : Array Value) (hw : ∀ d ∈ tables_1, d.before a0 Z = true) (hEL : EW Z a0 []) (n0 : Nat) (t : Addr) (k : ClassId) (s : Int32) (x y : Int32) (h : Heap) (At : Arv Z h t k .int (2 : Int32) [(.int x), (.int y)] (.int (0 : Int32)))  :
    Met l true Z [] n0 (⟨"java/math/BigInteger", "multiplyByInt", "([III)Ljava/math/BigInteger;"⟩ : MethodName) jdk_2097_method_43_code 13 (some (.object "java/math/BigInteger")) ({ frames := 3, cells := 2, slots := 8, locals := 80 } : Room) [] #[(.ref t), (.int (1 : Int32)), (.int s)] [] h (fun v h' => ∃ g : Addr, v = some (.ref g) ∧ Ext h h' ∧ BI Z h' g s [x, y]) := by
  refine Met.of_body (a0 := a0) (L0 := #[.val (.ref t), .val (.int (1 : Int32)), .val (.int s), .unset, .unset, .unset, .unset, .unset, .unset, .unset, .unset, .unset, .unset]) (plainFor_of_name (by first | (simp [plainName, overriddenIn]; done) | decide +kernel)) (fun m => by first | (simp [entryFrame, mkF, argsToLocals, Value.category]; done) | rfl) hw hEL (by decide) ?_
  have K : Keep h h [] := Keep.refl _ _
  refine iloadN (pc' := 1) dbj0 rfl rfl ?_
  refine callJP (v := .int (Jvm.Free.JP.Integer_bitCount_I.val (1 : Int32))) (pc' := 4) (kStatic (i := 198) (i2 := 199) (i3 := 96) (i4 := 200) (argsL := [(.int (1 : Int32))]) (S' := []) (Wd := 0) dbj1 rfl rfl rfl rfl (by decide) rfl pd_2 rfl rfl (Nat.le_of_ble_eq_true rfl)) (fun hZ hw => Jvm.Free.JP.Integer_bitCount_I.pays (W := 0) (1 : Int32) (own_bc hZ hw) (by decide) (by decide)) (fun _ => And.intro rfl trivial) (by decide) (by decide) rfl ?_
  rw [show (Jvm.Free.JP.Integer_bitCount_I.val (1 : Int32)) = (1 : Int32) from by decide]
  refine iconst (pc' := 5) (v := (1 : Int32)) dbj4 rfl rfl ?_
  refine icmpF (pc' := 8) dbj5 (rfl : (1 : Int32) = (1 : Int32)) rfl ?_
  refine new (i := 179) (i2 := 114) (i3 := 8) (pc' := 11) dbj8 rfl rfl rfl (by decide) (by decide) rfl fun h703 a704 g705 E706 A707 D708 => ?_
  have sz_a704 : h.size ≤ a704 := by rw [g705]; exact K.1
  have ne_t_a704 : t ≠ a704 := Nat.ne_of_lt (by rw [g705]; exact At.lt)
  replace K := K.ext E706
  replace At := At.ext E706
  have F_signum_a704 : Fld Z h703 a704 "java/math/BigInteger" "signum" "I" (.int (0 : Int32)) := D708 (Or.inr (hw _ (List.mem_of_getElem? (i := 35) rfl))) (ty := .int) (by decide)
  have F_mag_a704 : Fld Z h703 a704 "java/math/BigInteger" "mag" "[I" .null := D708 (Or.inr (hw _ (List.mem_of_getElem? (i := 52) rfl))) (ty := (.array .int)) (by decide)
  refine dup (pc' := 12) dbj11 rfl rfl ?_
  refine aloadN (pc' := 13) dbj12 rfl rfl rfl ?_
  refine iloadN (pc' := 14) dbj13 rfl rfl ?_
  refine callJP (v := .int (Jvm.Free.JP.Integer_numberOfTrailingZeros_I.val (1 : Int32))) (pc' := 17) (kStatic (i := 204) (i2 := 95) (i3 := 96) (i4 := 97) (argsL := [(.int (1 : Int32))]) (S' := [(.ref t), (.ref a704), (.ref a704)]) (Wd := 3) dbj14 rfl rfl rfl rfl (by decide) rfl pd_2 rfl rfl (Nat.le_of_ble_eq_true rfl)) (fun hZ hw => Jvm.Free.JP.Integer_numberOfTrailingZeros_I.pays (W := 3) (1 : Int32) (own_ntz hZ hw) (by decide) (by decide)) (fun _ => And.intro rfl trivial) (by decide) (by decide) rfl ?_
  rw [show (Jvm.Free.JP.Integer_numberOfTrailingZeros_I.val (1 : Int32)) = (0 : Int32) from by decide]
  refine call (i := 207) (i2 := 8) (Wd := 2) (pc' := 20) (kStatic (i := 205) (i2 := 206) (i3 := 8) (i4 := 207) (argsL := [(.ref t), (.int (0 : Int32))]) (S' := [(.ref a704), (.ref a704)]) (Wd := 2) dbj17 rfl rfl rfl rfl (by decide) rfl pd_1 rfl rfl (Nat.le_of_ble_eq_true rfl)) (rm_sh2 l Z a0 hw hEL n0 t k x y _ At) rfl rfl (by simp) (by decide) (by decide) (by decide) (by decide) rfl fun v_ h709 P710 sz711 => ?_
  obtain ⟨r, kr, rfl, X1, A1⟩ := P710
  replace K := K.ext X1
  replace At := At.ext X1
  replace A707 := A707.ext X1
  replace F_signum_a704 := F_signum_a704.ext X1
  replace F_mag_a704 := F_mag_a704.ext X1
  refine at' (ce' := 2) (sl' := 8) (pc' := 20) (S' := [(.ref r), (.ref a704), (.ref a704)]) rfl rfl rfl rfl rfl ?_
  refine iloadN (pc' := 21) dbj20 rfl rfl ?_
  refine call (i := 123) (i2 := 8) (Wd := 1) (pc' := 24) (kInit (i := 212) (i2 := 121) (i4 := 123) (a := a704) (argsL := [(.ref r), (.int s)]) (S' := [(.ref a704)]) (Wd := 1) dbj21 rfl rfl rfl rfl (by decide) rfl pd_9 rfl rfl (Nat.le_of_ble_eq_true rfl)) (rm_bia2 l Z a0 hw hEL n0 a704 r kr s x y _ A707 F_signum_a704 F_mag_a704 A1) rfl rfl (by simp) (by decide) (by decide) (by decide) (by decide) rfl fun v_ h712 P713 sz714 => ?_
  obtain ⟨rfl, K2, B2⟩ := P713
  replace K := K.trans K2 (allS (Or.inr sz_a704) all0)
  refine at' (ce' := 2) (sl' := 8) (pc' := 24) (S' := [(.ref a704)]) rfl rfl rfl rfl rfl ?_
  exact retA dbj24 rfl rfl rfl (by decide) (by decide) ⟨a704, rfl, keepExt K, B2⟩
set_option maxRecDepth 65536 in
set_option maxHeartbeats 40000000 in
theorem rm_mu20 (l : Launch) (Z : State) (a0 : Array Value) (hw : ∀ d ∈ tables_1, d.before a0 Z = true) (hEL : EW Z a0 []) (n0 : Nat) (a b : Addr) (s : Int32) (h : Heap)  (hC : Caches Z) (Ha : BI Z h a 0 []) (Hb : BI Z h b 1 [1])  :
    Met l true Z [] n0 (⟨"java/math/BigInteger", "multiply", "(Ljava/math/BigInteger;ZZI)Ljava/math/BigInteger;"⟩ : MethodName) jdk_2097_method_42_code 9 (some (.object "java/math/BigInteger")) ({ frames := 4, cells := 2, slots := 8, locals := 110 } : Room) [] #[(.ref a), (.ref b), (.int (0 : Int32)), (.int (0 : Int32)), (.int (0 : Int32))] [] h (fun v h' => ∃ g : Addr, v = some (.ref g) ∧ Ext h h' ∧ BI Z h' g 0 []) := by
  refine Met.of_body (a0 := a0) (L0 := #[.val (.ref a), .val (.ref b), .val (.int (0 : Int32)), .val (.int (0 : Int32)), .val (.int (0 : Int32)), .unset, .unset, .unset, .unset]) (plainFor_of_name (by first | (simp [plainName, overriddenIn]; done) | decide +kernel)) (fun m => by first | (simp [entryFrame, mkF, argsToLocals, Value.category]; done) | rfl) hw hEL (by decide) ?_
  obtain ⟨Ea, Sa, ta, ka, Ma, Aa⟩ := id Ha
  have Aa : Arv Z h ta ka .int (0 : Int32) [] (.int (0 : Int32)) := Aa
  obtain ⟨Eb, Sb, tb, kb, Mb, Ab⟩ := id Hb
  have Ab : Arv Z h tb kb .int (1 : Int32) [(.int (1 : Int32))] (.int (0 : Int32)) := Ab
  refine aloadN (pc' := 1) dbk0 rfl rfl rfl ?_
  refine getfield (i := 34) (pc' := 4) dbk1 rfl Sb rfl ?_
  refine ifF (pc' := 7) dbk4 (by decide : ¬ ((1 : Int32) = (0 : Int32))) rfl ?_
  refine aloadN (pc' := 8) dbk7 rfl rfl rfl ?_
  refine getfield (i := 34) (pc' := 11) dbk8 rfl Sa rfl ?_
  obtain ⟨⟨z0, Sz, Bz⟩, -⟩ := hC
  refine ifF (pc' := 14) dbk11 (rfl : (0 : Int32) = (0 : Int32)) rfl ?_
  refine old fun O715 _ => ?_
  refine getstatic (i := 261) (v := (.ref z0)) (pc' := 17) dbk14 rfl (Sz.ext O715.2) rfl ?_
  refine old fun O _ => ?_
  exact retA dbk17 rfl rfl rfl (by decide) (by decide) ⟨z0, rfl, ⟨Nat.le_refl _, fun _ _ q => q⟩, (Bz.ext O.2).bi⟩
set_option maxRecDepth 65536 in
set_option maxHeartbeats 40000000 in
theorem rm_mul0 (l : Launch) (Z : State) (a0 : Array Value) (hw : ∀ d ∈ tables_1, d.before a0 Z = true) (hEL : EW Z a0 []) (n0 : Nat) (a b : Addr) (s : Int32) (h : Heap)  (hC : Caches Z) (Ha : BI Z h a 0 []) (Hb : BI Z h b 1 [1])  :
    Met l true Z [] n0 (⟨"java/math/BigInteger", "multiply", "(Ljava/math/BigInteger;)Ljava/math/BigInteger;"⟩ : MethodName) jdk_2097_method_40_code 2 (some (.object "java/math/BigInteger")) ({ frames := 5, cells := 2, slots := 8, locals := 140 } : Room) [] #[(.ref a), (.ref b)] [] h (fun v h' => ∃ g : Addr, v = some (.ref g) ∧ Ext h h' ∧ BI Z h' g 0 []) := by
  refine Met.of_body (a0 := a0) (L0 := #[.val (.ref a), .val (.ref b)]) (plainFor_of_name (by first | (simp [plainName, overriddenIn]; done) | decide +kernel)) (fun m => by first | rfl | (simp [entryFrame, mkF, argsToLocals, Value.category]; done)) hw hEL (by decide) ?_
  refine aloadN (pc' := 1) dbl0 rfl rfl rfl ?_
  refine aloadN (pc' := 2) dbl1 rfl rfl rfl ?_
  refine iconst (pc' := 3) (v := (0 : Int32)) dbl2 rfl rfl ?_
  refine iconst (pc' := 4) (v := (0 : Int32)) dbl3 rfl rfl ?_
  refine iconst (pc' := 5) (v := (0 : Int32)) dbl4 rfl rfl ?_
  refine call (i := 194) (i2 := 8) (Wd := 0) (pc' := 8) (kPriv (i := 190) (i2 := 191) (i3 := 32) (i4 := 194) (i5 := 192) (a := a) (argsL := [(.ref b), (.int (0 : Int32)), (.int (0 : Int32)), (.int (0 : Int32))]) (S' := []) (Wd := 0) dbl5 rfl rfl rfl rfl rfl rfl (Ha.1) (by decide) rfl pd_21 rfl rfl (Nat.le_of_ble_eq_true rfl)) (rm_mu20 l Z a0 hw hEL n0 a b s _ hC Ha Hb) rfl rfl (by simp) (by decide) (by decide) (by decide) (by decide) rfl fun v_ h716 P717 sz718 => ?_
  obtain ⟨g, rfl, X1, B1⟩ := P717
  refine at' (ce' := 2) (sl' := 8) (pc' := 8) (S' := [(.ref g)]) rfl rfl rfl rfl rfl ?_
  exact retA dbl8 rfl rfl rfl (by decide) (by decide) ⟨g, rfl, X1, B1⟩
set_option maxRecDepth 65536 in
set_option maxHeartbeats 40000000 in
theorem rm_mu21 (l : Launch) (Z : State) (a0 : Array Value) (hw : ∀ d ∈ tables_1, d.before a0 Z = true) (hEL : EW Z a0 []) (n0 : Nat) (a b : Addr) (s : Int32) (x : Int32) (h : Heap)  (hC : Caches Z) (Ha : BI Z h a s [x]) (Hb : BI Z h b 1 [1]) (hs : s = 1 ∨ s = -1) :
    Met l true Z [] n0 (⟨"java/math/BigInteger", "multiply", "(Ljava/math/BigInteger;ZZI)Ljava/math/BigInteger;"⟩ : MethodName) jdk_2097_method_42_code 9 (some (.object "java/math/BigInteger")) ({ frames := 4, cells := 2, slots := 8, locals := 110 } : Room) [] #[(.ref a), (.ref b), (.int (0 : Int32)), (.int (0 : Int32)), (.int (0 : Int32))] [] h (fun v h' => ∃ g : Addr, v = some (.ref g) ∧ Ext h h' ∧ BI Z h' g s [x]) := by
  refine Met.of_body (a0 := a0) (L0 := #[.val (.ref a), .val (.ref b), .val (.int (0 : Int32)), .val (.int (0 : Int32)), .val (.int (0 : Int32)), .unset, .unset, .unset, .unset]) (plainFor_of_name (by first | (simp [plainName, overriddenIn]; done) | decide +kernel)) (fun m => by first | (simp [entryFrame, mkF, argsToLocals, Value.category]; done) | rfl) hw hEL (by decide) ?_
  obtain ⟨Ea, Sa, ta, ka, Ma, Aa⟩ := id Ha
  have Aa : Arv Z h ta ka .int (1 : Int32) [(.int x)] (.int (0 : Int32)) := Aa
  obtain ⟨Eb, Sb, tb, kb, Mb, Ab⟩ := id Hb
  have Ab : Arv Z h tb kb .int (1 : Int32) [(.int (1 : Int32))] (.int (0 : Int32)) := Ab
  refine aloadN (pc' := 1) dbk0 rfl rfl rfl ?_
  refine getfield (i := 34) (pc' := 4) dbk1 rfl Sb rfl ?_
  refine ifF (pc' := 7) dbk4 (by decide : ¬ ((1 : Int32) = (0 : Int32))) rfl ?_
  refine aloadN (pc' := 8) dbk7 rfl rfl rfl ?_
  refine getfield (i := 34) (pc' := 11) dbk8 rfl Sa rfl ?_
  refine ifT (pc' := 18) dbk11 (by rcases hs with rfl | rfl <;> decide : ¬ (s = (0 : Int32))) (by decide) rfl ?_
  refine aloadN (pc' := 19) dbk18 rfl rfl rfl ?_
  refine getfield (i := 131) (pc' := 22) dbk19 rfl Ma rfl ?_
  refine arraylength (pc' := 23) dbk22 Aa rfl ?_
  refine istore (pc' := 25) (L' := #[.val (.ref a), .val (.ref b), .val (.int (0 : Int32)), .val (.int (0 : Int32)), .val (.int (0 : Int32)), .val (.int (1 : Int32)), .unset, .unset, .unset]) dbk23 rfl rfl ?_
  refine aloadN (pc' := 26) dbk25 rfl rfl rfl ?_
  refine aloadN (pc' := 27) dbk26 rfl rfl rfl ?_
  have J83 : Wq l true Z [] a0 n0 (⟨"java/math/BigInteger", "multiply", "(Ljava/math/BigInteger;ZZI)Ljava/math/BigInteger;"⟩ : MethodName) jdk_2097_method_42_code 9 (some (.object "java/math/BigInteger")) ({ frames := 4, cells := 2, slots := 8, locals := 110 } : Room) h (fun v h' => ∃ g : Addr, v = some (.ref g) ∧ Ext h h' ∧ BI Z h' g s [x]) [] h 0 0 83 #[.val (.ref a), .val (.ref b), .val (.int (0 : Int32)), .val (.int (0 : Int32)), .val (.int (0 : Int32)), .val (.int (1 : Int32)), .val (.int (1 : Int32)), .unset, .unset] [(.int s)] := by
    refine istore (pc' := 85) (L' := #[.val (.ref a), .val (.ref b), .val (.int (0 : Int32)), .val (.int (0 : Int32)), .val (.int (0 : Int32)), .val (.int (1 : Int32)), .val (.int (1 : Int32)), .val (.int s), .unset]) dbk83 rfl rfl ?_
    refine aloadN (pc' := 86) dbk85 rfl rfl rfl ?_
    refine getfield (i := 131) (pc' := 89) dbk86 rfl Mb rfl ?_
    refine arraylength (pc' := 90) dbk89 Ab rfl ?_
    refine iconst (pc' := 91) (v := (1 : Int32)) dbk90 rfl rfl ?_
    refine icmpF (pc' := 94) dbk91 (rfl : (1 : Int32) = (1 : Int32)) rfl ?_
    refine aloadN (pc' := 95) dbk94 rfl rfl rfl ?_
    refine getfield (i := 131) (pc' := 98) dbk95 rfl Ma rfl ?_
    refine aloadN (pc' := 99) dbk98 rfl rfl rfl ?_
    refine getfield (i := 131) (pc' := 102) dbk99 rfl Mb rfl ?_
    refine iconst (pc' := 103) (v := (0 : Int32)) dbk102 rfl rfl ?_
    refine iaload (v := (.int (1 : Int32))) (pc' := 104) dbk103 Ab ⟨by decide, by decide⟩ rfl rfl ?_
    refine iload (pc' := 106) dbk104 rfl rfl ?_
    refine call (i := 197) (i2 := 8) (Wd := 0) (pc' := 109) (kStatic (i := 195) (i2 := 196) (i3 := 8) (i4 := 197) (argsL := [(.ref ta), (.int (1 : Int32)), (.int s)]) (S' := []) (Wd := 0) dbk106 rfl rfl rfl rfl (by decide) rfl pd_22 rfl rfl (Nat.le_of_ble_eq_true rfl)) (rm_mbi1 l Z a0 hw hEL n0 ta ka s x _ Aa) rfl rfl (by simp) (by decide) (by decide) (by decide) (by decide) rfl fun v_ h719 P720 sz721 => ?_
    obtain ⟨g, rfl, X1, B1⟩ := P720
    refine at' (ce' := 2) (sl' := 8) (pc' := 109) (S' := [(.ref g)]) rfl rfl rfl rfl rfl ?_
    exact retA dbk109 rfl rfl rfl (by decide) (by decide) ⟨g, rfl, X1, B1⟩
  have J46 : Wq l true Z [] a0 n0 (⟨"java/math/BigInteger", "multiply", "(Ljava/math/BigInteger;ZZI)Ljava/math/BigInteger;"⟩ : MethodName) jdk_2097_method_42_code 9 (some (.object "java/math/BigInteger")) ({ frames := 4, cells := 2, slots := 8, locals := 110 } : Room) h (fun v h' => ∃ g : Addr, v = some (.ref g) ∧ Ext h h' ∧ BI Z h' g s [x]) [] h 0 0 46 #[.val (.ref a), .val (.ref b), .val (.int (0 : Int32)), .val (.int (0 : Int32)), .val (.int (0 : Int32)), .val (.int (1 : Int32)), .unset, .unset, .unset] [] := by
    refine aloadN (pc' := 47) dbk46 rfl rfl rfl ?_
    refine getfield (i := 131) (pc' := 50) dbk47 rfl Mb rfl ?_
    refine arraylength (pc' := 51) dbk50 Ab rfl ?_
    refine istore (pc' := 53) (L' := #[.val (.ref a), .val (.ref b), .val (.int (0 : Int32)), .val (.int (0 : Int32)), .val (.int (0 : Int32)), .val (.int (1 : Int32)), .val (.int (1 : Int32)), .unset, .unset]) dbk51 rfl rfl ?_
    refine iload (pc' := 55) dbk53 rfl rfl ?_
    refine bipush (pc' := 57) (v := (80 : Int32)) dbk55 rfl rfl ?_
    refine icmpT (pc' := 67) dbk57 (by decide : (1 : Int32) < (80 : Int32)) (by decide) rfl ?_
    refine aloadN (pc' := 68) dbk67 rfl rfl rfl ?_
    refine getfield (i := 34) (pc' := 71) dbk68 rfl Sa rfl ?_
    refine aloadN (pc' := 72) dbk71 rfl rfl rfl ?_
    refine getfield (i := 34) (pc' := 75) dbk72 rfl Sb rfl ?_
    refine icmp (pc' := 82) (pcF := 78) dbk75 (by decide) rfl rfl (fun (q0 : ¬ (s = (1 : Int32))) => ?_) (fun (q0 : s = (1 : Int32)) => ?_)
    · skip
      obtain rfl : s = -1 := hs.resolve_left q0
      refine iconst (pc' := 83) (v := (-1 : Int32)) dbk82 rfl rfl ?_
      exact J83
    · skip
      subst q0
      refine iconst (pc' := 79) (v := (1 : Int32)) dbk78 rfl rfl ?_
      refine goto (pc' := 83) dbk79 (by decide) rfl ?_
      exact J83
  by_cases hab : b = a
  · skip
    refine acmp (pc' := 30) (v := (.ref b)) (w := (.ref a)) true dbk27 rfl rfl (decide_eq_true (congrArg Value.ref hab)) (by decide) rfl ?_
    refine iload (pc' := 32) dbk30 rfl rfl ?_
    refine bipush (pc' := 34) (v := (20 : Int32)) dbk32 rfl rfl ?_
    refine icmpT (pc' := 46) dbk34 (by decide : ¬ ((20 : Int32) < (1 : Int32))) (by decide) rfl ?_
    exact J46
  · skip
    refine acmp (pc' := 46) (v := (.ref b)) (w := (.ref a)) false dbk27 rfl rfl (decide_eq_false (fun q => hab (Value.ref.inj q))) (by decide) rfl ?_
    exact J46
set_option maxRecDepth 65536 in
set_option maxHeartbeats 40000000 in
theorem rm_mul1 (l : Launch) (Z : State) (a0 : Array Value) (hw : ∀ d ∈ tables_1, d.before a0 Z = true) (hEL : EW Z a0 []) (n0 : Nat) (a b : Addr) (s : Int32) (x : Int32) (h : Heap)  (hC : Caches Z) (Ha : BI Z h a s [x]) (Hb : BI Z h b 1 [1]) (hs : s = 1 ∨ s = -1) :
    Met l true Z [] n0 (⟨"java/math/BigInteger", "multiply", "(Ljava/math/BigInteger;)Ljava/math/BigInteger;"⟩ : MethodName) jdk_2097_method_40_code 2 (some (.object "java/math/BigInteger")) ({ frames := 5, cells := 2, slots := 8, locals := 140 } : Room) [] #[(.ref a), (.ref b)] [] h (fun v h' => ∃ g : Addr, v = some (.ref g) ∧ Ext h h' ∧ BI Z h' g s [x]) := by
  refine Met.of_body (a0 := a0) (L0 := #[.val (.ref a), .val (.ref b)]) (plainFor_of_name (by first | (simp [plainName, overriddenIn]; done) | decide +kernel)) (fun m => by first | rfl | (simp [entryFrame, mkF, argsToLocals, Value.category]; done)) hw hEL (by decide) ?_
  refine aloadN (pc' := 1) dbl0 rfl rfl rfl ?_
  refine aloadN (pc' := 2) dbl1 rfl rfl rfl ?_
  refine iconst (pc' := 3) (v := (0 : Int32)) dbl2 rfl rfl ?_
  refine iconst (pc' := 4) (v := (0 : Int32)) dbl3 rfl rfl ?_
  refine iconst (pc' := 5) (v := (0 : Int32)) dbl4 rfl rfl ?_
  refine call (i := 194) (i2 := 8) (Wd := 0) (pc' := 8) (kPriv (i := 190) (i2 := 191) (i3 := 32) (i4 := 194) (i5 := 192) (a := a) (argsL := [(.ref b), (.int (0 : Int32)), (.int (0 : Int32)), (.int (0 : Int32))]) (S' := []) (Wd := 0) dbl5 rfl rfl rfl rfl rfl rfl (Ha.1) (by decide) rfl pd_21 rfl rfl (Nat.le_of_ble_eq_true rfl)) (rm_mu21 l Z a0 hw hEL n0 a b s x _ hC Ha Hb hs) rfl rfl (by simp) (by decide) (by decide) (by decide) (by decide) rfl fun v_ h722 P723 sz724 => ?_
  obtain ⟨g, rfl, X1, B1⟩ := P723
  refine at' (ce' := 2) (sl' := 8) (pc' := 8) (S' := [(.ref g)]) rfl rfl rfl rfl rfl ?_
  exact retA dbl8 rfl rfl rfl (by decide) (by decide) ⟨g, rfl, X1, B1⟩
set_option maxRecDepth 65536 in
set_option maxHeartbeats 40000000 in
theorem rm_mu22 (l : Launch) (Z : State) (a0 : Array Value) (hw : ∀ d ∈ tables_1, d.before a0 Z = true) (hEL : EW Z a0 []) (n0 : Nat) (a b : Addr) (s : Int32) (x y : Int32) (h : Heap)  (hC : Caches Z) (Ha : BI Z h a s [x, y]) (Hb : BI Z h b 1 [1]) (hs : s = 1 ∨ s = -1) :
    Met l true Z [] n0 (⟨"java/math/BigInteger", "multiply", "(Ljava/math/BigInteger;ZZI)Ljava/math/BigInteger;"⟩ : MethodName) jdk_2097_method_42_code 9 (some (.object "java/math/BigInteger")) ({ frames := 4, cells := 2, slots := 8, locals := 110 } : Room) [] #[(.ref a), (.ref b), (.int (0 : Int32)), (.int (0 : Int32)), (.int (0 : Int32))] [] h (fun v h' => ∃ g : Addr, v = some (.ref g) ∧ Ext h h' ∧ BI Z h' g s [x, y]) := by
  refine Met.of_body (a0 := a0) (L0 := #[.val (.ref a), .val (.ref b), .val (.int (0 : Int32)), .val (.int (0 : Int32)), .val (.int (0 : Int32)), .unset, .unset, .unset, .unset]) (plainFor_of_name (by first | (simp [plainName, overriddenIn]; done) | decide +kernel)) (fun m => by first | (simp [entryFrame, mkF, argsToLocals, Value.category]; done) | rfl) hw hEL (by decide) ?_
  obtain ⟨Ea, Sa, ta, ka, Ma, Aa⟩ := id Ha
  have Aa : Arv Z h ta ka .int (2 : Int32) [(.int x), (.int y)] (.int (0 : Int32)) := Aa
  obtain ⟨Eb, Sb, tb, kb, Mb, Ab⟩ := id Hb
  have Ab : Arv Z h tb kb .int (1 : Int32) [(.int (1 : Int32))] (.int (0 : Int32)) := Ab
  refine aloadN (pc' := 1) dbk0 rfl rfl rfl ?_
  refine getfield (i := 34) (pc' := 4) dbk1 rfl Sb rfl ?_
  refine ifF (pc' := 7) dbk4 (by decide : ¬ ((1 : Int32) = (0 : Int32))) rfl ?_
  refine aloadN (pc' := 8) dbk7 rfl rfl rfl ?_
  refine getfield (i := 34) (pc' := 11) dbk8 rfl Sa rfl ?_
  refine ifT (pc' := 18) dbk11 (by rcases hs with rfl | rfl <;> decide : ¬ (s = (0 : Int32))) (by decide) rfl ?_
  refine aloadN (pc' := 19) dbk18 rfl rfl rfl ?_
  refine getfield (i := 131) (pc' := 22) dbk19 rfl Ma rfl ?_
  refine arraylength (pc' := 23) dbk22 Aa rfl ?_
  refine istore (pc' := 25) (L' := #[.val (.ref a), .val (.ref b), .val (.int (0 : Int32)), .val (.int (0 : Int32)), .val (.int (0 : Int32)), .val (.int (2 : Int32)), .unset, .unset, .unset]) dbk23 rfl rfl ?_
  refine aloadN (pc' := 26) dbk25 rfl rfl rfl ?_
  refine aloadN (pc' := 27) dbk26 rfl rfl rfl ?_
  have J83 : Wq l true Z [] a0 n0 (⟨"java/math/BigInteger", "multiply", "(Ljava/math/BigInteger;ZZI)Ljava/math/BigInteger;"⟩ : MethodName) jdk_2097_method_42_code 9 (some (.object "java/math/BigInteger")) ({ frames := 4, cells := 2, slots := 8, locals := 110 } : Room) h (fun v h' => ∃ g : Addr, v = some (.ref g) ∧ Ext h h' ∧ BI Z h' g s [x, y]) [] h 0 0 83 #[.val (.ref a), .val (.ref b), .val (.int (0 : Int32)), .val (.int (0 : Int32)), .val (.int (0 : Int32)), .val (.int (2 : Int32)), .val (.int (1 : Int32)), .unset, .unset] [(.int s)] := by
    refine istore (pc' := 85) (L' := #[.val (.ref a), .val (.ref b), .val (.int (0 : Int32)), .val (.int (0 : Int32)), .val (.int (0 : Int32)), .val (.int (2 : Int32)), .val (.int (1 : Int32)), .val (.int s), .unset]) dbk83 rfl rfl ?_
    refine aloadN (pc' := 86) dbk85 rfl rfl rfl ?_
    refine getfield (i := 131) (pc' := 89) dbk86 rfl Mb rfl ?_
    refine arraylength (pc' := 90) dbk89 Ab rfl ?_
    refine iconst (pc' := 91) (v := (1 : Int32)) dbk90 rfl rfl ?_
    refine icmpF (pc' := 94) dbk91 (rfl : (1 : Int32) = (1 : Int32)) rfl ?_
    refine aloadN (pc' := 95) dbk94 rfl rfl rfl ?_
    refine getfield (i := 131) (pc' := 98) dbk95 rfl Ma rfl ?_
    refine aloadN (pc' := 99) dbk98 rfl rfl rfl ?_
    refine getfield (i := 131) (pc' := 102) dbk99 rfl Mb rfl ?_
    refine iconst (pc' := 103) (v := (0 : Int32)) dbk102 rfl rfl ?_
    refine iaload (v := (.int (1 : Int32))) (pc' := 104) dbk103 Ab ⟨by decide, by decide⟩ rfl rfl ?_
    refine iload (pc' := 106) dbk104 rfl rfl ?_
    refine call (i := 197) (i2 := 8) (Wd := 0) (pc' := 109) (kStatic (i := 195) (i2 := 196) (i3 := 8) (i4 := 197) (argsL := [(.ref ta), (.int (1 : Int32)), (.int s)]) (S' := []) (Wd := 0) dbk106 rfl rfl rfl rfl (by decide) rfl pd_22 rfl rfl (Nat.le_of_ble_eq_true rfl)) (rm_mbi2 l Z a0 hw hEL n0 ta ka s x y _ Aa) rfl rfl (by simp) (by decide) (by decide) (by decide) (by decide) rfl fun v_ h725 P726 sz727 => ?_
    obtain ⟨g, rfl, X1, B1⟩ := P726
    refine at' (ce' := 2) (sl' := 8) (pc' := 109) (S' := [(.ref g)]) rfl rfl rfl rfl rfl ?_
    exact retA dbk109 rfl rfl rfl (by decide) (by decide) ⟨g, rfl, X1, B1⟩
  have J46 : Wq l true Z [] a0 n0 (⟨"java/math/BigInteger", "multiply", "(Ljava/math/BigInteger;ZZI)Ljava/math/BigInteger;"⟩ : MethodName) jdk_2097_method_42_code 9 (some (.object "java/math/BigInteger")) ({ frames := 4, cells := 2, slots := 8, locals := 110 } : Room) h (fun v h' => ∃ g : Addr, v = some (.ref g) ∧ Ext h h' ∧ BI Z h' g s [x, y]) [] h 0 0 46 #[.val (.ref a), .val (.ref b), .val (.int (0 : Int32)), .val (.int (0 : Int32)), .val (.int (0 : Int32)), .val (.int (2 : Int32)), .unset, .unset, .unset] [] := by
    refine aloadN (pc' := 47) dbk46 rfl rfl rfl ?_
    refine getfield (i := 131) (pc' := 50) dbk47 rfl Mb rfl ?_
    refine arraylength (pc' := 51) dbk50 Ab rfl ?_
    refine istore (pc' := 53) (L' := #[.val (.ref a), .val (.ref b), .val (.int (0 : Int32)), .val (.int (0 : Int32)), .val (.int (0 : Int32)), .val (.int (2 : Int32)), .val (.int (1 : Int32)), .unset, .unset]) dbk51 rfl rfl ?_
    refine iload (pc' := 55) dbk53 rfl rfl ?_
    refine bipush (pc' := 57) (v := (80 : Int32)) dbk55 rfl rfl ?_
    refine icmpT (pc' := 67) dbk57 (by decide : (2 : Int32) < (80 : Int32)) (by decide) rfl ?_
    refine aloadN (pc' := 68) dbk67 rfl rfl rfl ?_
    refine getfield (i := 34) (pc' := 71) dbk68 rfl Sa rfl ?_
    refine aloadN (pc' := 72) dbk71 rfl rfl rfl ?_
    refine getfield (i := 34) (pc' := 75) dbk72 rfl Sb rfl ?_
    refine icmp (pc' := 82) (pcF := 78) dbk75 (by decide) rfl rfl (fun (q0 : ¬ (s = (1 : Int32))) => ?_) (fun (q0 : s = (1 : Int32)) => ?_)
    · skip
      obtain rfl : s = -1 := hs.resolve_left q0
      refine iconst (pc' := 83) (v := (-1 : Int32)) dbk82 rfl rfl ?_
      exact J83
    · skip
      subst q0
      refine iconst (pc' := 79) (v := (1 : Int32)) dbk78 rfl rfl ?_
      refine goto (pc' := 83) dbk79 (by decide) rfl ?_
      exact J83
  by_cases hab : b = a
  · skip
    refine acmp (pc' := 30) (v := (.ref b)) (w := (.ref a)) true dbk27 rfl rfl (decide_eq_true (congrArg Value.ref hab)) (by decide) rfl ?_
    refine iload (pc' := 32) dbk30 rfl rfl ?_
    refine bipush (pc' := 34) (v := (20 : Int32)) dbk32 rfl rfl ?_
    refine icmpT (pc' := 46) dbk34 (by decide : ¬ ((20 : Int32) < (2 : Int32))) (by decide) rfl ?_
    exact J46
  · skip
    refine acmp (pc' := 46) (v := (.ref b)) (w := (.ref a)) false dbk27 rfl rfl (decide_eq_false (fun q => hab (Value.ref.inj q))) (by decide) rfl ?_
    exact J46
set_option maxRecDepth 65536 in
set_option maxHeartbeats 40000000 in
theorem rm_mul2 (l : Launch) (Z : State) (a0 : Array Value) (hw : ∀ d ∈ tables_1, d.before a0 Z = true) (hEL : EW Z a0 []) (n0 : Nat) (a b : Addr) (s : Int32) (x y : Int32) (h : Heap)  (hC : Caches Z) (Ha : BI Z h a s [x, y]) (Hb : BI Z h b 1 [1]) (hs : s = 1 ∨ s = -1) :
    Met l true Z [] n0 (⟨"java/math/BigInteger", "multiply", "(Ljava/math/BigInteger;)Ljava/math/BigInteger;"⟩ : MethodName) jdk_2097_method_40_code 2 (some (.object "java/math/BigInteger")) ({ frames := 5, cells := 2, slots := 8, locals := 140 } : Room) [] #[(.ref a), (.ref b)] [] h (fun v h' => ∃ g : Addr, v = some (.ref g) ∧ Ext h h' ∧ BI Z h' g s [x, y]) := by
  refine Met.of_body (a0 := a0) (L0 := #[.val (.ref a), .val (.ref b)]) (plainFor_of_name (by first | (simp [plainName, overriddenIn]; done) | decide +kernel)) (fun m => by first | rfl | (simp [entryFrame, mkF, argsToLocals, Value.category]; done)) hw hEL (by decide) ?_
  refine aloadN (pc' := 1) dbl0 rfl rfl rfl ?_
  refine aloadN (pc' := 2) dbl1 rfl rfl rfl ?_
  refine iconst (pc' := 3) (v := (0 : Int32)) dbl2 rfl rfl ?_
  refine iconst (pc' := 4) (v := (0 : Int32)) dbl3 rfl rfl ?_
  refine iconst (pc' := 5) (v := (0 : Int32)) dbl4 rfl rfl ?_
  refine call (i := 194) (i2 := 8) (Wd := 0) (pc' := 8) (kPriv (i := 190) (i2 := 191) (i3 := 32) (i4 := 194) (i5 := 192) (a := a) (argsL := [(.ref b), (.int (0 : Int32)), (.int (0 : Int32)), (.int (0 : Int32))]) (S' := []) (Wd := 0) dbl5 rfl rfl rfl rfl rfl rfl (Ha.1) (by decide) rfl pd_21 rfl rfl (Nat.le_of_ble_eq_true rfl)) (rm_mu22 l Z a0 hw hEL n0 a b s x y _ hC Ha Hb hs) rfl rfl (by simp) (by decide) (by decide) (by decide) (by decide) rfl fun v_ h728 P729 sz730 => ?_
  obtain ⟨g, rfl, X1, B1⟩ := P729
  refine at' (ce' := 2) (sl' := 8) (pc' := 8) (S' := [(.ref g)]) rfl rfl rfl rfl rfl ?_
  exact retA dbl8 rfl rfl rfl (by decide) (by decide) ⟨g, rfl, X1, B1⟩
set_option maxRecDepth 65536 in
set_option maxHeartbeats 40000000 in
theorem rm_eq00 (l : Launch) (Z : State) (a0 : Array Value) (hw : ∀ d ∈ tables_1, d.before a0 Z = true) (hEL : EW Z a0 []) (n0 : Nat) (a b : Addr) (s s' : Int32) (h : Heap)  (Ha : BI Z h a s []) (Hb : BI Z h b s' []) :
    Met l true Z [] n0 (⟨"java/math/BigInteger", "equals", "(Ljava/lang/Object;)Z"⟩ : MethodName) jdk_2097_method_124_code 7 (some .boolean) ({ frames := 0, cells := 0, slots := 0, locals := 0 } : Room) [] #[(.ref a), (.ref b)] [] h (fun v h' => ∃ c : Int32, v = some (.int c) ∧ ((c = 1 ∧ s = s' ∧ ([] : List Int32) = ([] : List Int32)) ∨ (c = 0 ∧ ¬ (s = s' ∧ ([] : List Int32) = ([] : List Int32)))) ∧ h' = h) := by
  refine Met.of_body (a0 := a0) (L0 := #[.val (.ref a), .val (.ref b), .unset, .unset, .unset, .unset, .unset]) (plainFor_of_name (by first | (simp [plainName, overriddenIn]; done) | decide +kernel)) (fun m => by first | rfl | (simp [entryFrame, mkF, argsToLocals, Value.category]; done)) hw hEL (by decide) ?_
  refine aloadN (pc' := 1) dbm0 rfl rfl rfl ?_
  refine aloadN (pc' := 2) dbm1 rfl rfl rfl ?_
  by_cases hab : b = a
  · skip
    refine acmp (pc' := 5) (v := (.ref b)) (w := (.ref a)) true dbm2 rfl rfl (decide_eq_true (congrArg Value.ref hab)) (by decide) rfl ?_
    refine iconst (pc' := 6) (v := (1 : Int32)) dbm5 rfl rfl ?_
    subst hab
    have u := BI.uniq Ha Hb (by simp) (by simp)
    exact retI dbm6 rfl (Or.inr (Or.inl rfl)) rfl (by decide) (by decide) ⟨_, rfl, Or.inl ⟨rfl, u⟩, rfl⟩
  · skip
    refine acmp (pc' := 7) (v := (.ref b)) (w := (.ref a)) false dbm2 rfl rfl (decide_eq_false (fun q => hab (Value.ref.inj q))) (by decide) rfl ?_
    obtain ⟨Ea, Sa, ta, ka, Ma, Aa⟩ := id Ha
    have Aa : Arv Z h ta ka .int (0 : Int32) [] (.int (0 : Int32)) := Aa
    obtain ⟨Eb, Sb, tb, kb, Mb, Ab⟩ := id Hb
    have Ab : Arv Z h tb kb .int (0 : Int32) [] (.int (0 : Int32)) := Ab
    refine aloadN (pc' := 8) dbm7 rfl rfl rfl ?_
    refine instanceofY (i := 179) (pc' := 11) dbm8 rfl (Ins.self Eb) rfl ?_
    refine ifF (pc' := 14) dbm11 (by decide : ¬ ((1 : Int32) = (0 : Int32))) rfl ?_
    refine aloadN (pc' := 15) dbm14 rfl rfl rfl ?_
    refine checkcast (i := 179) (pc' := 18) dbm15 rfl (Ins.self Eb) rfl ?_
    refine astoreN (pc' := 19) (L' := #[.val (.ref a), .val (.ref b), .val (.ref b), .unset, .unset, .unset, .unset]) dbm18 rfl rfl rfl ?_
    refine goto (pc' := 24) dbm19 (by decide) rfl ?_
    refine aloadN (pc' := 25) dbm24 rfl rfl rfl ?_
    refine getfield (i := 34) (pc' := 28) dbm25 rfl Sb rfl ?_
    refine aloadN (pc' := 29) dbm28 rfl rfl rfl ?_
    refine getfield (i := 34) (pc' := 32) dbm29 rfl Sa rfl ?_
    refine icmp (pc' := 37) (pcF := 35) dbm32 (by decide) rfl rfl (fun (q0 : s' = s) => ?_) (fun (q0 : ¬ (s' = s)) => ?_)
    · skip
      refine aloadN (pc' := 38) dbm37 rfl rfl rfl ?_
      refine getfield (i := 131) (pc' := 41) dbm38 rfl Ma rfl ?_
      refine astoreN (pc' := 42) (L' := #[.val (.ref a), .val (.ref b), .val (.ref b), .val (.ref ta), .unset, .unset, .unset]) dbm41 rfl rfl rfl ?_
      refine aloadN (pc' := 43) dbm42 rfl rfl rfl ?_
      refine arraylength (pc' := 44) dbm43 Aa rfl ?_
      refine istore (pc' := 46) (L' := #[.val (.ref a), .val (.ref b), .val (.ref b), .val (.ref ta), .val (.int (0 : Int32)), .unset, .unset]) dbm44 rfl rfl ?_
      refine aloadN (pc' := 47) dbm46 rfl rfl rfl ?_
      refine getfield (i := 131) (pc' := 50) dbm47 rfl Mb rfl ?_
      refine astore (pc' := 52) (L' := #[.val (.ref a), .val (.ref b), .val (.ref b), .val (.ref ta), .val (.int (0 : Int32)), .val (.ref tb), .unset]) dbm50 rfl rfl rfl ?_
      refine iload (pc' := 54) dbm52 rfl rfl ?_
      refine aload (pc' := 56) dbm54 rfl rfl rfl ?_
      refine arraylength (pc' := 57) dbm56 Ab rfl ?_
      refine icmpT (pc' := 62) dbm57 (rfl : (0 : Int32) = (0 : Int32)) (by decide) rfl ?_
      refine iconst (pc' := 63) (v := (0 : Int32)) dbm62 rfl rfl ?_
      refine istore (pc' := 65) (L' := #[.val (.ref a), .val (.ref b), .val (.ref b), .val (.ref ta), .val (.int (0 : Int32)), .val (.ref tb), .val (.int (0 : Int32))]) dbm63 rfl rfl ?_
      refine iload (pc' := 67) dbm65 rfl rfl ?_
      refine iload (pc' := 69) dbm67 rfl rfl ?_
      refine icmpT (pc' := 92) dbm69 (by decide : ¬ ((0 : Int32) < (0 : Int32))) (by decide) rfl ?_
      refine iconst (pc' := 93) (v := (1 : Int32)) dbm92 rfl rfl ?_
      exact retI dbm93 rfl (Or.inr (Or.inl rfl)) rfl (by decide) (by decide) ⟨_, rfl, Or.inl ⟨rfl, q0.symm, rfl⟩, rfl⟩
    · skip
      refine iconst (pc' := 36) (v := (0 : Int32)) dbm35 rfl rfl ?_
      exact retI dbm36 rfl (Or.inr (Or.inl rfl)) rfl (by decide) (by decide) ⟨_, rfl, Or.inr ⟨rfl, fun r => q0 r.1.symm⟩, rfl⟩
set_option maxRecDepth 65536 in
set_option maxHeartbeats 40000000 in
theorem rm_eq01 (l : Launch) (Z : State) (a0 : Array Value) (hw : ∀ d ∈ tables_1, d.before a0 Z = true) (hEL : EW Z a0 []) (n0 : Nat) (a b : Addr) (s s' x' : Int32) (h : Heap)  (Ha : BI Z h a s []) (Hb : BI Z h b s' [x']) :
    Met l true Z [] n0 (⟨"java/math/BigInteger", "equals", "(Ljava/lang/Object;)Z"⟩ : MethodName) jdk_2097_method_124_code 7 (some .boolean) ({ frames := 0, cells := 0, slots := 0, locals := 0 } : Room) [] #[(.ref a), (.ref b)] [] h (fun v h' => ∃ c : Int32, v = some (.int c) ∧ ((c = 1 ∧ s = s' ∧ ([] : List Int32) = ([x'] : List Int32)) ∨ (c = 0 ∧ ¬ (s = s' ∧ ([] : List Int32) = ([x'] : List Int32)))) ∧ h' = h) := by
  refine Met.of_body (a0 := a0) (L0 := #[.val (.ref a), .val (.ref b), .unset, .unset, .unset, .unset, .unset]) (plainFor_of_name (by first | (simp [plainName, overriddenIn]; done) | decide +kernel)) (fun m => by first | rfl | (simp [entryFrame, mkF, argsToLocals, Value.category]; done)) hw hEL (by decide) ?_
  refine aloadN (pc' := 1) dbm0 rfl rfl rfl ?_
  refine aloadN (pc' := 2) dbm1 rfl rfl rfl ?_
  by_cases hab : b = a
  · skip
    refine acmp (pc' := 5) (v := (.ref b)) (w := (.ref a)) true dbm2 rfl rfl (decide_eq_true (congrArg Value.ref hab)) (by decide) rfl ?_
    refine iconst (pc' := 6) (v := (1 : Int32)) dbm5 rfl rfl ?_
    subst hab
    have u := BI.uniq Ha Hb (by simp) (by simp)
    exact retI dbm6 rfl (Or.inr (Or.inl rfl)) rfl (by decide) (by decide) ⟨_, rfl, Or.inl ⟨rfl, u⟩, rfl⟩
  · skip
    refine acmp (pc' := 7) (v := (.ref b)) (w := (.ref a)) false dbm2 rfl rfl (decide_eq_false (fun q => hab (Value.ref.inj q))) (by decide) rfl ?_
    obtain ⟨Ea, Sa, ta, ka, Ma, Aa⟩ := id Ha
    have Aa : Arv Z h ta ka .int (0 : Int32) [] (.int (0 : Int32)) := Aa
    obtain ⟨Eb, Sb, tb, kb, Mb, Ab⟩ := id Hb
    have Ab : Arv Z h tb kb .int (1 : Int32) [(.int x')] (.int (0 : Int32)) := Ab
    refine aloadN (pc' := 8) dbm7 rfl rfl rfl ?_
    refine instanceofY (i := 179) (pc' := 11) dbm8 rfl (Ins.self Eb) rfl ?_
    refine ifF (pc' := 14) dbm11 (by decide : ¬ ((1 : Int32) = (0 : Int32))) rfl ?_
    refine aloadN (pc' := 15) dbm14 rfl rfl rfl ?_
    refine checkcast (i := 179) (pc' := 18) dbm15 rfl (Ins.self Eb) rfl ?_
    refine astoreN (pc' := 19) (L' := #[.val (.ref a), .val (.ref b), .val (.ref b), .unset, .unset, .unset, .unset]) dbm18 rfl rfl rfl ?_
    refine goto (pc' := 24) dbm19 (by decide) rfl ?_
    refine aloadN (pc' := 25) dbm24 rfl rfl rfl ?_
    refine getfield (i := 34) (pc' := 28) dbm25 rfl Sb rfl ?_
    refine aloadN (pc' := 29) dbm28 rfl rfl rfl ?_
    refine getfield (i := 34) (pc' := 32) dbm29 rfl Sa rfl ?_
    refine icmp (pc' := 37) (pcF := 35) dbm32 (by decide) rfl rfl (fun (q0 : s' = s) => ?_) (fun (q0 : ¬ (s' = s)) => ?_)
    · skip
      refine aloadN (pc' := 38) dbm37 rfl rfl rfl ?_
      refine getfield (i := 131) (pc' := 41) dbm38 rfl Ma rfl ?_
      refine astoreN (pc' := 42) (L' := #[.val (.ref a), .val (.ref b), .val (.ref b), .val (.ref ta), .unset, .unset, .unset]) dbm41 rfl rfl rfl ?_
      refine aloadN (pc' := 43) dbm42 rfl rfl rfl ?_
      refine arraylength (pc' := 44) dbm43 Aa rfl ?_
      refine istore (pc' := 46) (L' := #[.val (.ref a), .val (.ref b), .val (.ref b), .val (.ref ta), .val (.int (0 : Int32)), .unset, .unset]) dbm44 rfl rfl ?_
      refine aloadN (pc' := 47) dbm46 rfl rfl rfl ?_
      refine getfield (i := 131) (pc' := 50) dbm47 rfl Mb rfl ?_
      refine astore (pc' := 52) (L' := #[.val (.ref a), .val (.ref b), .val (.ref b), .val (.ref ta), .val (.int (0 : Int32)), .val (.ref tb), .unset]) dbm50 rfl rfl rfl ?_
      refine iload (pc' := 54) dbm52 rfl rfl ?_
      refine aload (pc' := 56) dbm54 rfl rfl rfl ?_
      refine arraylength (pc' := 57) dbm56 Ab rfl ?_
      refine icmpF (pc' := 60) dbm57 (by decide : ¬ ((0 : Int32) = (1 : Int32))) rfl ?_
      refine iconst (pc' := 61) (v := (0 : Int32)) dbm60 rfl rfl ?_
      exact retI dbm61 rfl (Or.inr (Or.inl rfl)) rfl (by decide) (by decide) ⟨_, rfl, Or.inr ⟨rfl, fun r => by cases r.2⟩, rfl⟩
    · skip
      refine iconst (pc' := 36) (v := (0 : Int32)) dbm35 rfl rfl ?_
      exact retI dbm36 rfl (Or.inr (Or.inl rfl)) rfl (by decide) (by decide) ⟨_, rfl, Or.inr ⟨rfl, fun r => q0 r.1.symm⟩, rfl⟩
set_option maxRecDepth 65536 in
set_option maxHeartbeats 40000000 in
theorem rm_eq02 (l : Launch) (Z : State) (a0 : Array Value) (hw : ∀ d ∈ tables_1, d.before a0 Z = true) (hEL : EW Z a0 []) (n0 : Nat) (a b : Addr) (s s' x' y' : Int32) (h : Heap)  (Ha : BI Z h a s []) (Hb : BI Z h b s' [x', y']) :
    Met l true Z [] n0 (⟨"java/math/BigInteger", "equals", "(Ljava/lang/Object;)Z"⟩ : MethodName) jdk_2097_method_124_code 7 (some .boolean) ({ frames := 0, cells := 0, slots := 0, locals := 0 } : Room) [] #[(.ref a), (.ref b)] [] h (fun v h' => ∃ c : Int32, v = some (.int c) ∧ ((c = 1 ∧ s = s' ∧ ([] : List Int32) = ([x', y'] : List Int32)) ∨ (c = 0 ∧ ¬ (s = s' ∧ ([] : List Int32) = ([x', y'] : List Int32)))) ∧ h' = h) := by
  refine Met.of_body (a0 := a0) (L0 := #[.val (.ref a), .val (.ref b), .unset, .unset, .unset, .unset, .unset]) (plainFor_of_name (by first | (simp [plainName, overriddenIn]; done) | decide +kernel)) (fun m => by first | rfl | (simp [entryFrame, mkF, argsToLocals, Value.category]; done)) hw hEL (by decide) ?_
  refine aloadN (pc' := 1) dbm0 rfl rfl rfl ?_
  refine aloadN (pc' := 2) dbm1 rfl rfl rfl ?_
  by_cases hab : b = a
  · skip
    refine acmp (pc' := 5) (v := (.ref b)) (w := (.ref a)) true dbm2 rfl rfl (decide_eq_true (congrArg Value.ref hab)) (by decide) rfl ?_
    refine iconst (pc' := 6) (v := (1 : Int32)) dbm5 rfl rfl ?_
    subst hab
    have u := BI.uniq Ha Hb (by simp) (by simp)
    exact retI dbm6 rfl (Or.inr (Or.inl rfl)) rfl (by decide) (by decide) ⟨_, rfl, Or.inl ⟨rfl, u⟩, rfl⟩
  · skip
    refine acmp (pc' := 7) (v := (.ref b)) (w := (.ref a)) false dbm2 rfl rfl (decide_eq_false (fun q => hab (Value.ref.inj q))) (by decide) rfl ?_
    obtain ⟨Ea, Sa, ta, ka, Ma, Aa⟩ := id Ha
    have Aa : Arv Z h ta ka .int (0 : Int32) [] (.int (0 : Int32)) := Aa
    obtain ⟨Eb, Sb, tb, kb, Mb, Ab⟩ := id Hb
    have Ab : Arv Z h tb kb .int (2 : Int32) [(.int x'), (.int y')] (.int (0 : Int32)) := Ab
    refine aloadN (pc' := 8) dbm7 rfl rfl rfl ?_
    refine instanceofY (i := 179) (pc' := 11) dbm8 rfl (Ins.self Eb) rfl ?_
    refine ifF (pc' := 14) dbm11 (by decide : ¬ ((1 : Int32) = (0 : Int32))) rfl ?_
    refine aloadN (pc' := 15) dbm14 rfl rfl rfl ?_
    refine checkcast (i := 179) (pc' := 18) dbm15 rfl (Ins.self Eb) rfl ?_
    refine astoreN (pc' := 19) (L' := #[.val (.ref a), .val (.ref b), .val (.ref b), .unset, .unset, .unset, .unset]) dbm18 rfl rfl rfl ?_
    refine goto (pc' := 24) dbm19 (by decide) rfl ?_
    refine aloadN (pc' := 25) dbm24 rfl rfl rfl ?_
    refine getfield (i := 34) (pc' := 28) dbm25 rfl Sb rfl ?_
    refine aloadN (pc' := 29) dbm28 rfl rfl rfl ?_
    refine getfield (i := 34) (pc' := 32) dbm29 rfl Sa rfl ?_
    refine icmp (pc' := 37) (pcF := 35) dbm32 (by decide) rfl rfl (fun (q0 : s' = s) => ?_) (fun (q0 : ¬ (s' = s)) => ?_)
    · skip
      refine aloadN (pc' := 38) dbm37 rfl rfl rfl ?_
      refine getfield (i := 131) (pc' := 41) dbm38 rfl Ma rfl ?_
      refine astoreN (pc' := 42) (L' := #[.val (.ref a), .val (.ref b), .val (.ref b), .val (.ref ta), .unset, .unset, .unset]) dbm41 rfl rfl rfl ?_
      refine aloadN (pc' := 43) dbm42 rfl rfl rfl ?_
      refine arraylength (pc' := 44) dbm43 Aa rfl ?_
      refine istore (pc' := 46) (L' := #[.val (.ref a), .val (.ref b), .val (.ref b), .val (.ref ta), .val (.int (0 : Int32)), .unset, .unset]) dbm44 rfl rfl ?_
      refine aloadN (pc' := 47) dbm46 rfl rfl rfl ?_
      refine getfield (i := 131) (pc' := 50) dbm47 rfl Mb rfl ?_
      refine astore (pc' := 52) (L' := #[.val (.ref a), .val (.ref b), .val (.ref b), .val (.ref ta), .val (.int (0 : Int32)), .val (.ref tb), .unset]) dbm50 rfl rfl rfl ?_
      refine iload (pc' := 54) dbm52 rfl rfl ?_
      refine aload (pc' := 56) dbm54 rfl rfl rfl ?_
      refine arraylength (pc' := 57) dbm56 Ab rfl ?_
      refine icmpF (pc' := 60) dbm57 (by decide : ¬ ((0 : Int32) = (2 : Int32))) rfl ?_
      refine iconst (pc' := 61) (v := (0 : Int32)) dbm60 rfl rfl ?_
      exact retI dbm61 rfl (Or.inr (Or.inl rfl)) rfl (by decide) (by decide) ⟨_, rfl, Or.inr ⟨rfl, fun r => by cases r.2⟩, rfl⟩
    · skip
      refine iconst (pc' := 36) (v := (0 : Int32)) dbm35 rfl rfl ?_
      exact retI dbm36 rfl (Or.inr (Or.inl rfl)) rfl (by decide) (by decide) ⟨_, rfl, Or.inr ⟨rfl, fun r => q0 r.1.symm⟩, rfl⟩
set_option maxRecDepth 65536 in
set_option maxHeartbeats 40000000 in
theorem rm_eq10 (l : Launch) (Z : State) (a0 : Array Value) (hw : ∀ d ∈ tables_1, d.before a0 Z = true) (hEL : EW Z a0 []) (n0 : Nat) (a b : Addr) (s s' x : Int32) (h : Heap)  (Ha : BI Z h a s [x]) (Hb : BI Z h b s' []) :
    Met l true Z [] n0 (⟨"java/math/BigInteger", "equals", "(Ljava/lang/Object;)Z"⟩ : MethodName) jdk_2097_method_124_code 7 (some .boolean) ({ frames := 0, cells := 0, slots := 0, locals := 0 } : Room) [] #[(.ref a), (.ref b)] [] h (fun v h' => ∃ c : Int32, v = some (.int c) ∧ ((c = 1 ∧ s = s' ∧ ([x] : List Int32) = ([] : List Int32)) ∨ (c = 0 ∧ ¬ (s = s' ∧ ([x] : List Int32) = ([] : List Int32)))) ∧ h' = h) := by
  refine Met.of_body (a0 := a0) (L0 := #[.val (.ref a), .val (.ref b), .unset, .unset, .unset, .unset, .unset]) (plainFor_of_name (by first | (simp [plainName, overriddenIn]; done) | decide +kernel)) (fun m => by first | rfl | (simp [entryFrame, mkF, argsToLocals, Value.category]; done)) hw hEL (by decide) ?_
  refine aloadN (pc' := 1) dbm0 rfl rfl rfl ?_
  refine aloadN (pc' := 2) dbm1 rfl rfl rfl ?_
  by_cases hab : b = a
  · skip
    refine acmp (pc' := 5) (v := (.ref b)) (w := (.ref a)) true dbm2 rfl rfl (decide_eq_true (congrArg Value.ref hab)) (by decide) rfl ?_
    refine iconst (pc' := 6) (v := (1 : Int32)) dbm5 rfl rfl ?_
    subst hab
    have u := BI.uniq Ha Hb (by simp) (by simp)
    exact retI dbm6 rfl (Or.inr (Or.inl rfl)) rfl (by decide) (by decide) ⟨_, rfl, Or.inl ⟨rfl, u⟩, rfl⟩
  · skip
    refine acmp (pc' := 7) (v := (.ref b)) (w := (.ref a)) false dbm2 rfl rfl (decide_eq_false (fun q => hab (Value.ref.inj q))) (by decide) rfl ?_
    obtain ⟨Ea, Sa, ta, ka, Ma, Aa⟩ := id Ha
    have Aa : Arv Z h ta ka .int (1 : Int32) [(.int x)] (.int (0 : Int32)) := Aa
    obtain ⟨Eb, Sb, tb, kb, Mb, Ab⟩ := id Hb
    have Ab : Arv Z h tb kb .int (0 : Int32) [] (.int (0 : Int32)) := Ab
    refine aloadN (pc' := 8) dbm7 rfl rfl rfl ?_
    refine instanceofY (i := 179) (pc' := 11) dbm8 rfl (Ins.self Eb) rfl ?_
    refine ifF (pc' := 14) dbm11 (by decide : ¬ ((1 : Int32) = (0 : Int32))) rfl ?_
    refine aloadN (pc' := 15) dbm14 rfl rfl rfl ?_
    refine checkcast (i := 179) (pc' := 18) dbm15 rfl (Ins.self Eb) rfl ?_
    refine astoreN (pc' := 19) (L' := #[.val (.ref a), .val (.ref b), .val (.ref b), .unset, .unset, .unset, .unset]) dbm18 rfl rfl rfl ?_
    refine goto (pc' := 24) dbm19 (by decide) rfl ?_
    refine aloadN (pc' := 25) dbm24 rfl rfl rfl ?_
    refine getfield (i := 34) (pc' := 28) dbm25 rfl Sb rfl ?_
    refine aloadN (pc' := 29) dbm28 rfl rfl rfl ?_
    refine getfield (i := 34) (pc' := 32) dbm29 rfl Sa rfl ?_
    refine icmp (pc' := 37) (pcF := 35) dbm32 (by decide) rfl rfl (fun (q0 : s' = s) => ?_) (fun (q0 : ¬ (s' = s)) => ?_)
    · skip
      refine aloadN (pc' := 38) dbm37 rfl rfl rfl ?_
      refine getfield (i := 131) (pc' := 41) dbm38 rfl Ma rfl ?_
      refine astoreN (pc' := 42) (L' := #[.val (.ref a), .val (.ref b), .val (.ref b), .val (.ref ta), .unset, .unset, .unset]) dbm41 rfl rfl rfl ?_
      refine aloadN (pc' := 43) dbm42 rfl rfl rfl ?_
      refine arraylength (pc' := 44) dbm43 Aa rfl ?_
      refine istore (pc' := 46) (L' := #[.val (.ref a), .val (.ref b), .val (.ref b), .val (.ref ta), .val (.int (1 : Int32)), .unset, .unset]) dbm44 rfl rfl ?_
      refine aloadN (pc' := 47) dbm46 rfl rfl rfl ?_
      refine getfield (i := 131) (pc' := 50) dbm47 rfl Mb rfl ?_
      refine astore (pc' := 52) (L' := #[.val (.ref a), .val (.ref b), .val (.ref b), .val (.ref ta), .val (.int (1 : Int32)), .val (.ref tb), .unset]) dbm50 rfl rfl rfl ?_
      refine iload (pc' := 54) dbm52 rfl rfl ?_
      refine aload (pc' := 56) dbm54 rfl rfl rfl ?_
      refine arraylength (pc' := 57) dbm56 Ab rfl ?_
      refine icmpF (pc' := 60) dbm57 (by decide : ¬ ((1 : Int32) = (0 : Int32))) rfl ?_
      refine iconst (pc' := 61) (v := (0 : Int32)) dbm60 rfl rfl ?_
      exact retI dbm61 rfl (Or.inr (Or.inl rfl)) rfl (by decide) (by decide) ⟨_, rfl, Or.inr ⟨rfl, fun r => by cases r.2⟩, rfl⟩
    · skip
      refine iconst (pc' := 36) (v := (0 : Int32)) dbm35 rfl rfl ?_
      exact retI dbm36 rfl (Or.inr (Or.inl rfl)) rfl (by decide) (by decide) ⟨_, rfl, Or.inr ⟨rfl, fun r => q0 r.1.symm⟩, rfl⟩
set_option maxRecDepth 65536 in
set_option maxHeartbeats 40000000 in
theorem rm_eq11 (l : Launch) (Z : State) (a0 : Array Value) (hw : ∀ d ∈ tables_1, d.before a0 Z = true) (hEL : EW Z a0 []) (n0 : Nat) (a b : Addr) (s s' x x' : Int32) (h : Heap)  (Ha : BI Z h a s [x]) (Hb : BI Z h b s' [x']) :
    Met l true Z [] n0 (⟨"java/math/BigInteger", "equals", "(Ljava/lang/Object;)Z"⟩ : MethodName) jdk_2097_method_124_code 7 (some .boolean) ({ frames := 0, cells := 0, slots := 0, locals := 0 } : Room) [] #[(.ref a), (.ref b)] [] h (fun v h' => ∃ c : Int32, v = some (.int c) ∧ ((c = 1 ∧ s = s' ∧ ([x] : List Int32) = ([x'] : List Int32)) ∨ (c = 0 ∧ ¬ (s = s' ∧ ([x] : List Int32) = ([x'] : List Int32)))) ∧ h' = h) := by
  refine Met.of_body (a0 := a0) (L0 := #[.val (.ref a), .val (.ref b), .unset, .unset, .unset, .unset, .unset]) (plainFor_of_name (by first | (simp [plainName, overriddenIn]; done) | decide +kernel)) (fun m => by first | rfl | (simp [entryFrame, mkF, argsToLocals, Value.category]; done)) hw hEL (by decide) ?_
  refine aloadN (pc' := 1) dbm0 rfl rfl rfl ?_
  refine aloadN (pc' := 2) dbm1 rfl rfl rfl ?_
  by_cases hab : b = a
  · skip
    refine acmp (pc' := 5) (v := (.ref b)) (w := (.ref a)) true dbm2 rfl rfl (decide_eq_true (congrArg Value.ref hab)) (by decide) rfl ?_
    refine iconst (pc' := 6) (v := (1 : Int32)) dbm5 rfl rfl ?_
    subst hab
    have u := BI.uniq Ha Hb (by simp) (by simp)
    exact retI dbm6 rfl (Or.inr (Or.inl rfl)) rfl (by decide) (by decide) ⟨_, rfl, Or.inl ⟨rfl, u⟩, rfl⟩
  · skip
    refine acmp (pc' := 7) (v := (.ref b)) (w := (.ref a)) false dbm2 rfl rfl (decide_eq_false (fun q => hab (Value.ref.inj q))) (by decide) rfl ?_
    obtain ⟨Ea, Sa, ta, ka, Ma, Aa⟩ := id Ha
    have Aa : Arv Z h ta ka .int (1 : Int32) [(.int x)] (.int (0 : Int32)) := Aa
    obtain ⟨Eb, Sb, tb, kb, Mb, Ab⟩ := id Hb
    have Ab : Arv Z h tb kb .int (1 : Int32) [(.int x')] (.int (0 : Int32)) := Ab
    refine aloadN (pc' := 8) dbm7 rfl rfl rfl ?_
    refine instanceofY (i := 179) (pc' := 11) dbm8 rfl (Ins.self Eb) rfl ?_
    refine ifF (pc' := 14) dbm11 (by decide : ¬ ((1 : Int32) = (0 : Int32))) rfl ?_
    refine aloadN (pc' := 15) dbm14 rfl rfl rfl ?_
    refine checkcast (i := 179) (pc' := 18) dbm15 rfl (Ins.self Eb) rfl ?_
    refine astoreN (pc' := 19) (L' := #[.val (.ref a), .val (.ref b), .val (.ref b), .unset, .unset, .unset, .unset]) dbm18 rfl rfl rfl ?_
    refine goto (pc' := 24) dbm19 (by decide) rfl ?_
    refine aloadN (pc' := 25) dbm24 rfl rfl rfl ?_
    refine getfield (i := 34) (pc' := 28) dbm25 rfl Sb rfl ?_
    refine aloadN (pc' := 29) dbm28 rfl rfl rfl ?_
    refine getfield (i := 34) (pc' := 32) dbm29 rfl Sa rfl ?_
    refine icmp (pc' := 37) (pcF := 35) dbm32 (by decide) rfl rfl (fun (q0 : s' = s) => ?_) (fun (q0 : ¬ (s' = s)) => ?_)
    · skip
      refine aloadN (pc' := 38) dbm37 rfl rfl rfl ?_
      refine getfield (i := 131) (pc' := 41) dbm38 rfl Ma rfl ?_
      refine astoreN (pc' := 42) (L' := #[.val (.ref a), .val (.ref b), .val (.ref b), .val (.ref ta), .unset, .unset, .unset]) dbm41 rfl rfl rfl ?_
      refine aloadN (pc' := 43) dbm42 rfl rfl rfl ?_
      refine arraylength (pc' := 44) dbm43 Aa rfl ?_
      refine istore (pc' := 46) (L' := #[.val (.ref a), .val (.ref b), .val (.ref b), .val (.ref ta), .val (.int (1 : Int32)), .unset, .unset]) dbm44 rfl rfl ?_
      refine aloadN (pc' := 47) dbm46 rfl rfl rfl ?_
      refine getfield (i := 131) (pc' := 50) dbm47 rfl Mb rfl ?_
      refine astore (pc' := 52) (L' := #[.val (.ref a), .val (.ref b), .val (.ref b), .val (.ref ta), .val (.int (1 : Int32)), .val (.ref tb), .unset]) dbm50 rfl rfl rfl ?_
      refine iload (pc' := 54) dbm52 rfl rfl ?_
      refine aload (pc' := 56) dbm54 rfl rfl rfl ?_
      refine arraylength (pc' := 57) dbm56 Ab rfl ?_
      refine icmpT (pc' := 62) dbm57 (rfl : (1 : Int32) = (1 : Int32)) (by decide) rfl ?_
      refine iconst (pc' := 63) (v := (0 : Int32)) dbm62 rfl rfl ?_
      refine istore (pc' := 65) (L' := #[.val (.ref a), .val (.ref b), .val (.ref b), .val (.ref ta), .val (.int (1 : Int32)), .val (.ref tb), .val (.int (0 : Int32))]) dbm63 rfl rfl ?_
      refine iload (pc' := 67) dbm65 rfl rfl ?_
      refine iload (pc' := 69) dbm67 rfl rfl ?_
      refine icmpF (pc' := 72) dbm69 (by decide : (0 : Int32) < (1 : Int32)) rfl ?_
      refine aload (pc' := 74) dbm72 rfl rfl rfl ?_
      refine iload (pc' := 76) dbm74 rfl rfl ?_
      refine iaload (v := (.int x')) (pc' := 77) dbm76 Ab ⟨by decide, by decide⟩ rfl rfl ?_
      refine aloadN (pc' := 78) dbm77 rfl rfl rfl ?_
      refine iload (pc' := 80) dbm78 rfl rfl ?_
      refine iaload (v := (.int x)) (pc' := 81) dbm80 Aa ⟨by decide, by decide⟩ rfl rfl ?_
      refine icmp (pc' := 86) (pcF := 84) dbm81 (by decide) rfl rfl (fun (e0 : x' = x) => ?_) (fun (e0 : ¬ (x' = x)) => ?_)
      · skip
        refine iinc (pc' := 89) (v := (1 : Int32)) (L' := #[.val (.ref a), .val (.ref b), .val (.ref b), .val (.ref ta), .val (.int (1 : Int32)), .val (.ref tb), .val (.int (1 : Int32))]) dbm86 rfl rfl rfl rfl ?_
        refine goto (pc' := 65) dbm89 (by decide) rfl ?_
        refine iload (pc' := 67) dbm65 rfl rfl ?_
        refine iload (pc' := 69) dbm67 rfl rfl ?_
        refine icmpT (pc' := 92) dbm69 (by decide : ¬ ((1 : Int32) < (1 : Int32))) (by decide) rfl ?_
        refine iconst (pc' := 93) (v := (1 : Int32)) dbm92 rfl rfl ?_
        exact retI dbm93 rfl (Or.inr (Or.inl rfl)) rfl (by decide) (by decide) ⟨_, rfl, Or.inl ⟨rfl, q0.symm, by rw [e0]⟩, rfl⟩
      · skip
        refine iconst (pc' := 85) (v := (0 : Int32)) dbm84 rfl rfl ?_
        exact retI dbm85 rfl (Or.inr (Or.inl rfl)) rfl (by decide) (by decide) ⟨_, rfl, Or.inr ⟨rfl, fun r => e0 (by injection r.2 with r1 r2; exact r1.symm)⟩, rfl⟩
    · skip
      refine iconst (pc' := 36) (v := (0 : Int32)) dbm35 rfl rfl ?_
      exact retI dbm36 rfl (Or.inr (Or.inl rfl)) rfl (by decide) (by decide) ⟨_, rfl, Or.inr ⟨rfl, fun r => q0 r.1.symm⟩, rfl⟩
set_option maxRecDepth 65536 in
set_option maxHeartbeats 40000000 in
theorem rm_eq12 (l : Launch) (Z : State) (a0 : Array Value) (hw : ∀ d ∈ tables_1, d.before a0 Z = true) (hEL : EW Z a0 []) (n0 : Nat) (a b : Addr) (s s' x x' y' : Int32) (h : Heap)  (Ha : BI Z h a s [x]) (Hb : BI Z h b s' [x', y']) :
    Met l true Z [] n0 (⟨"java/math/BigInteger", "equals", "(Ljava/lang/Object;)Z"⟩ : MethodName) jdk_2097_method_124_code 7 (some .boolean) ({ frames := 0, cells := 0, slots := 0, locals := 0 } : Room) [] #[(.ref a), (.ref b)] [] h (fun v h' => ∃ c : Int32, v = some (.int c) ∧ ((c = 1 ∧ s = s' ∧ ([x] : List Int32) = ([x', y'] : List Int32)) ∨ (c = 0 ∧ ¬ (s = s' ∧ ([x] : List Int32) = ([x', y'] : List Int32)))) ∧ h' = h) := by
  refine Met.of_body (a0 := a0) (L0 := #[.val (.ref a), .val (.ref b), .unset, .unset, .unset, .unset, .unset]) (plainFor_of_name (by first | (simp [plainName, overriddenIn]; done) | decide +kernel)) (fun m => by first | rfl | (simp [entryFrame, mkF, argsToLocals, Value.category]; done)) hw hEL (by decide) ?_
  refine aloadN (pc' := 1) dbm0 rfl rfl rfl ?_
  refine aloadN (pc' := 2) dbm1 rfl rfl rfl ?_
  by_cases hab : b = a
  · skip
    refine acmp (pc' := 5) (v := (.ref b)) (w := (.ref a)) true dbm2 rfl rfl (decide_eq_true (congrArg Value.ref hab)) (by decide) rfl ?_
    refine iconst (pc' := 6) (v := (1 : Int32)) dbm5 rfl rfl ?_
    subst hab
    have u := BI.uniq Ha Hb (by simp) (by simp)
    exact retI dbm6 rfl (Or.inr (Or.inl rfl)) rfl (by decide) (by decide) ⟨_, rfl, Or.inl ⟨rfl, u⟩, rfl⟩
  · skip
    refine acmp (pc' := 7) (v := (.ref b)) (w := (.ref a)) false dbm2 rfl rfl (decide_eq_false (fun q => hab (Value.ref.inj q))) (by decide) rfl ?_
    obtain ⟨Ea, Sa, ta, ka, Ma, Aa⟩ := id Ha
    have Aa : Arv Z h ta ka .int (1 : Int32) [(.int x)] (.int (0 : Int32)) := Aa
    obtain ⟨Eb, Sb, tb, kb, Mb, Ab⟩ := id Hb
    have Ab : Arv Z h tb kb .int (2 : Int32) [(.int x'), (.int y')] (.int (0 : Int32)) := Ab
    refine aloadN (pc' := 8) dbm7 rfl rfl rfl ?_
    refine instanceofY (i := 179) (pc' := 11) dbm8 rfl (Ins.self Eb) rfl ?_
    refine ifF (pc' := 14) dbm11 (by decide : ¬ ((1 : Int32) = (0 : Int32))) rfl ?_
    refine aloadN (pc' := 15) dbm14 rfl rfl rfl ?_
    refine checkcast (i := 179) (pc' := 18) dbm15 rfl (Ins.self Eb) rfl ?_
    refine astoreN (pc' := 19) (L' := #[.val (.ref a), .val (.ref b), .val (.ref b), .unset, .unset, .unset, .unset]) dbm18 rfl rfl rfl ?_
    refine goto (pc' := 24) dbm19 (by decide) rfl ?_
    refine aloadN (pc' := 25) dbm24 rfl rfl rfl ?_
    refine getfield (i := 34) (pc' := 28) dbm25 rfl Sb rfl ?_
    refine aloadN (pc' := 29) dbm28 rfl rfl rfl ?_
    refine getfield (i := 34) (pc' := 32) dbm29 rfl Sa rfl ?_
    refine icmp (pc' := 37) (pcF := 35) dbm32 (by decide) rfl rfl (fun (q0 : s' = s) => ?_) (fun (q0 : ¬ (s' = s)) => ?_)
    · skip
      refine aloadN (pc' := 38) dbm37 rfl rfl rfl ?_
      refine getfield (i := 131) (pc' := 41) dbm38 rfl Ma rfl ?_
      refine astoreN (pc' := 42) (L' := #[.val (.ref a), .val (.ref b), .val (.ref b), .val (.ref ta), .unset, .unset, .unset]) dbm41 rfl rfl rfl ?_
      refine aloadN (pc' := 43) dbm42 rfl rfl rfl ?_
      refine arraylength (pc' := 44) dbm43 Aa rfl ?_
      refine istore (pc' := 46) (L' := #[.val (.ref a), .val (.ref b), .val (.ref b), .val (.ref ta), .val (.int (1 : Int32)), .unset, .unset]) dbm44 rfl rfl ?_
      refine aloadN (pc' := 47) dbm46 rfl rfl rfl ?_
      refine getfield (i := 131) (pc' := 50) dbm47 rfl Mb rfl ?_
      refine astore (pc' := 52) (L' := #[.val (.ref a), .val (.ref b), .val (.ref b), .val (.ref ta), .val (.int (1 : Int32)), .val (.ref tb), .unset]) dbm50 rfl rfl rfl ?_
      refine iload (pc' := 54) dbm52 rfl rfl ?_
      refine aload (pc' := 56) dbm54 rfl rfl rfl ?_
      refine arraylength (pc' := 57) dbm56 Ab rfl ?_
      refine icmpF (pc' := 60) dbm57 (by decide : ¬ ((1 : Int32) = (2 : Int32))) rfl ?_
      refine iconst (pc' := 61) (v := (0 : Int32)) dbm60 rfl rfl ?_
      exact retI dbm61 rfl (Or.inr (Or.inl rfl)) rfl (by decide) (by decide) ⟨_, rfl, Or.inr ⟨rfl, fun r => by cases r.2⟩, rfl⟩
    · skip
      refine iconst (pc' := 36) (v := (0 : Int32)) dbm35 rfl rfl ?_
      exact retI dbm36 rfl (Or.inr (Or.inl rfl)) rfl (by decide) (by decide) ⟨_, rfl, Or.inr ⟨rfl, fun r => q0 r.1.symm⟩, rfl⟩
set_option maxRecDepth 65536 in
set_option maxHeartbeats 40000000 in
theorem rm_eq20 (l : Launch) (Z : State) (a0 : Array Value) (hw : ∀ d ∈ tables_1, d.before a0 Z = true) (hEL : EW Z a0 []) (n0 : Nat) (a b : Addr) (s s' x y : Int32) (h : Heap)  (Ha : BI Z h a s [x, y]) (Hb : BI Z h b s' []) :
    Met l true Z [] n0 (⟨"java/math/BigInteger", "equals", "(Ljava/lang/Object;)Z"⟩ : MethodName) jdk_2097_method_124_code 7 (some .boolean) ({ frames := 0, cells := 0, slots := 0, locals := 0 } : Room) [] #[(.ref a), (.ref b)] [] h (fun v h' => ∃ c : Int32, v = some (.int c) ∧ ((c = 1 ∧ s = s' ∧ ([x, y] : List Int32) = ([] : List Int32)) ∨ (c = 0 ∧ ¬ (s = s' ∧ ([x, y] : List Int32) = ([] : List Int32)))) ∧ h' = h) := by
  refine Met.of_body (a0 := a0) (L0 := #[.val (.ref a), .val (.ref b), .unset, .unset, .unset, .unset, .unset]) (plainFor_of_name (by first | (simp [plainName, overriddenIn]; done) | decide +kernel)) (fun m => by first | rfl | (simp [entryFrame, mkF, argsToLocals, Value.category]; done)) hw hEL (by decide) ?_
  refine aloadN (pc' := 1) dbm0 rfl rfl rfl ?_
  refine aloadN (pc' := 2) dbm1 rfl rfl rfl ?_
  by_cases hab : b = a
  · skip
    refine acmp (pc' := 5) (v := (.ref b)) (w := (.ref a)) true dbm2 rfl rfl (decide_eq_true (congrArg Value.ref hab)) (by decide) rfl ?_
    refine iconst (pc' := 6) (v := (1 : Int32)) dbm5 rfl rfl ?_
    subst hab
    have u := BI.uniq Ha Hb (by simp) (by simp)
    exact retI dbm6 rfl (Or.inr (Or.inl rfl)) rfl (by decide) (by decide) ⟨_, rfl, Or.inl ⟨rfl, u⟩, rfl⟩
  · skip
    refine acmp (pc' := 7) (v := (.ref b)) (w := (.ref a)) false dbm2 rfl rfl (decide_eq_false (fun q => hab (Value.ref.inj q))) (by decide) rfl ?_
    obtain ⟨Ea, Sa, ta, ka, Ma, Aa⟩ := id Ha
    have Aa : Arv Z h ta ka .int (2 : Int32) [(.int x), (.int y)] (.int (0 : Int32)) := Aa
    obtain ⟨Eb, Sb, tb, kb, Mb, Ab⟩ := id Hb
    have Ab : Arv Z h tb kb .int (0 : Int32) [] (.int (0 : Int32)) := Ab
    refine aloadN (pc' := 8) dbm7 rfl rfl rfl ?_
    refine instanceofY (i := 179) (pc' := 11) dbm8 rfl (Ins.self Eb) rfl ?_
    refine ifF (pc' := 14) dbm11 (by decide : ¬ ((1 : Int32) = (0 : Int32))) rfl ?_
    refine aloadN (pc' := 15) dbm14 rfl rfl rfl ?_
    refine checkcast (i := 179) (pc' := 18) dbm15 rfl (Ins.self Eb) rfl ?_
    refine astoreN (pc' := 19) (L' := #[.val (.ref a), .val (.ref b), .val (.ref b), .unset, .unset, .unset, .unset]) dbm18 rfl rfl rfl ?_
    refine goto (pc' := 24) dbm19 (by decide) rfl ?_
    refine aloadN (pc' := 25) dbm24 rfl rfl rfl ?_
    refine getfield (i := 34) (pc' := 28) dbm25 rfl Sb rfl ?_
    refine aloadN (pc' := 29) dbm28 rfl rfl rfl ?_
    refine getfield (i := 34) (pc' := 32) dbm29 rfl Sa rfl ?_
    refine icmp (pc' := 37) (pcF := 35) dbm32 (by decide) rfl rfl (fun (q0 : s' = s) => ?_) (fun (q0 : ¬ (s' = s)) => ?_)
    · skip
      refine aloadN (pc' := 38) dbm37 rfl rfl rfl ?_
      refine getfield (i := 131) (pc' := 41) dbm38 rfl Ma rfl ?_
      refine astoreN (pc' := 42) (L' := #[.val (.ref a), .val (.ref b), .val (.ref b), .val (.ref ta), .unset, .unset, .unset]) dbm41 rfl rfl rfl ?_
      refine aloadN (pc' := 43) dbm42 rfl rfl rfl ?_
      refine arraylength (pc' := 44) dbm43 Aa rfl ?_
      refine istore (pc' := 46) (L' := #[.val (.ref a), .val (.ref b), .val (.ref b), .val (.ref ta), .val (.int (2 : Int32)), .unset, .unset]) dbm44 rfl rfl ?_
      refine aloadN (pc' := 47) dbm46 rfl rfl rfl ?_
      refine getfield (i := 131) (pc' := 50) dbm47 rfl Mb rfl ?_
      refine astore (pc' := 52) (L' := #[.val (.ref a), .val (.ref b), .val (.ref b), .val (.ref ta), .val (.int (2 : Int32)), .val (.ref tb), .unset]) dbm50 rfl rfl rfl ?_
      refine iload (pc' := 54) dbm52 rfl rfl ?_
      refine aload (pc' := 56) dbm54 rfl rfl rfl ?_
      refine arraylength (pc' := 57) dbm56 Ab rfl ?_
      refine icmpF (pc' := 60) dbm57 (by decide : ¬ ((2 : Int32) = (0 : Int32))) rfl ?_
      refine iconst (pc' := 61) (v := (0 : Int32)) dbm60 rfl rfl ?_
      exact retI dbm61 rfl (Or.inr (Or.inl rfl)) rfl (by decide) (by decide) ⟨_, rfl, Or.inr ⟨rfl, fun r => by cases r.2⟩, rfl⟩
    · skip
      refine iconst (pc' := 36) (v := (0 : Int32)) dbm35 rfl rfl ?_
      exact retI dbm36 rfl (Or.inr (Or.inl rfl)) rfl (by decide) (by decide) ⟨_, rfl, Or.inr ⟨rfl, fun r => q0 r.1.symm⟩, rfl⟩
set_option maxRecDepth 65536 in
set_option maxHeartbeats 40000000 in
theorem rm_eq21 (l : Launch) (Z : State) (a0 : Array Value) (hw : ∀ d ∈ tables_1, d.before a0 Z = true) (hEL : EW Z a0 []) (n0 : Nat) (a b : Addr) (s s' x y x' : Int32) (h : Heap)  (Ha : BI Z h a s [x, y]) (Hb : BI Z h b s' [x']) :
    Met l true Z [] n0 (⟨"java/math/BigInteger", "equals", "(Ljava/lang/Object;)Z"⟩ : MethodName) jdk_2097_method_124_code 7 (some .boolean) ({ frames := 0, cells := 0, slots := 0, locals := 0 } : Room) [] #[(.ref a), (.ref b)] [] h (fun v h' => ∃ c : Int32, v = some (.int c) ∧ ((c = 1 ∧ s = s' ∧ ([x, y] : List Int32) = ([x'] : List Int32)) ∨ (c = 0 ∧ ¬ (s = s' ∧ ([x, y] : List Int32) = ([x'] : List Int32)))) ∧ h' = h) := by
  refine Met.of_body (a0 := a0) (L0 := #[.val (.ref a), .val (.ref b), .unset, .unset, .unset, .unset, .unset]) (plainFor_of_name (by first | (simp [plainName, overriddenIn]; done) | decide +kernel)) (fun m => by first | rfl | (simp [entryFrame, mkF, argsToLocals, Value.category]; done)) hw hEL (by decide) ?_
  refine aloadN (pc' := 1) dbm0 rfl rfl rfl ?_
  refine aloadN (pc' := 2) dbm1 rfl rfl rfl ?_
  by_cases hab : b = a
  · skip
    refine acmp (pc' := 5) (v := (.ref b)) (w := (.ref a)) true dbm2 rfl rfl (decide_eq_true (congrArg Value.ref hab)) (by decide) rfl ?_
    refine iconst (pc' := 6) (v := (1 : Int32)) dbm5 rfl rfl ?_
    subst hab
    have u := BI.uniq Ha Hb (by simp) (by simp)
    exact retI dbm6 rfl (Or.inr (Or.inl rfl)) rfl (by decide) (by decide) ⟨_, rfl, Or.inl ⟨rfl, u⟩, rfl⟩
  · skip
    refine acmp (pc' := 7) (v := (.ref b)) (w := (.ref a)) false dbm2 rfl rfl (decide_eq_false (fun q => hab (Value.ref.inj q))) (by decide) rfl ?_
    obtain ⟨Ea, Sa, ta, ka, Ma, Aa⟩ := id Ha
    have Aa : Arv Z h ta ka .int (2 : Int32) [(.int x), (.int y)] (.int (0 : Int32)) := Aa
    obtain ⟨Eb, Sb, tb, kb, Mb, Ab⟩ := id Hb
    have Ab : Arv Z h tb kb .int (1 : Int32) [(.int x')] (.int (0 : Int32)) := Ab
    refine aloadN (pc' := 8) dbm7 rfl rfl rfl ?_
    refine instanceofY (i := 179) (pc' := 11) dbm8 rfl (Ins.self Eb) rfl ?_
    refine ifF (pc' := 14) dbm11 (by decide : ¬ ((1 : Int32) = (0 : Int32))) rfl ?_
    refine aloadN (pc' := 15) dbm14 rfl rfl rfl ?_
    refine checkcast (i := 179) (pc' := 18) dbm15 rfl (Ins.self Eb) rfl ?_
    refine astoreN (pc' := 19) (L' := #[.val (.ref a), .val (.ref b), .val (.ref b), .unset, .unset, .unset, .unset]) dbm18 rfl rfl rfl ?_
    refine goto (pc' := 24) dbm19 (by decide) rfl ?_
    refine aloadN (pc' := 25) dbm24 rfl rfl rfl ?_
    refine getfield (i := 34) (pc' := 28) dbm25 rfl Sb rfl ?_
    refine aloadN (pc' := 29) dbm28 rfl rfl rfl ?_
    refine getfield (i := 34) (pc' := 32) dbm29 rfl Sa rfl ?_
    refine icmp (pc' := 37) (pcF := 35) dbm32 (by decide) rfl rfl (fun (q0 : s' = s) => ?_) (fun (q0 : ¬ (s' = s)) => ?_)
    · skip
      refine aloadN (pc' := 38) dbm37 rfl rfl rfl ?_
      refine getfield (i := 131) (pc' := 41) dbm38 rfl Ma rfl ?_
      refine astoreN (pc' := 42) (L' := #[.val (.ref a), .val (.ref b), .val (.ref b), .val (.ref ta), .unset, .unset, .unset]) dbm41 rfl rfl rfl ?_
      refine aloadN (pc' := 43) dbm42 rfl rfl rfl ?_
      refine arraylength (pc' := 44) dbm43 Aa rfl ?_
      refine istore (pc' := 46) (L' := #[.val (.ref a), .val (.ref b), .val (.ref b), .val (.ref ta), .val (.int (2 : Int32)), .unset, .unset]) dbm44 rfl rfl ?_
      refine aloadN (pc' := 47) dbm46 rfl rfl rfl ?_
      refine getfield (i := 131) (pc' := 50) dbm47 rfl Mb rfl ?_
      refine astore (pc' := 52) (L' := #[.val (.ref a), .val (.ref b), .val (.ref b), .val (.ref ta), .val (.int (2 : Int32)), .val (.ref tb), .unset]) dbm50 rfl rfl rfl ?_
      refine iload (pc' := 54) dbm52 rfl rfl ?_
      refine aload (pc' := 56) dbm54 rfl rfl rfl ?_
      refine arraylength (pc' := 57) dbm56 Ab rfl ?_
      refine icmpF (pc' := 60) dbm57 (by decide : ¬ ((2 : Int32) = (1 : Int32))) rfl ?_
      refine iconst (pc' := 61) (v := (0 : Int32)) dbm60 rfl rfl ?_
      exact retI dbm61 rfl (Or.inr (Or.inl rfl)) rfl (by decide) (by decide) ⟨_, rfl, Or.inr ⟨rfl, fun r => by cases r.2⟩, rfl⟩
    · skip
      refine iconst (pc' := 36) (v := (0 : Int32)) dbm35 rfl rfl ?_
      exact retI dbm36 rfl (Or.inr (Or.inl rfl)) rfl (by decide) (by decide) ⟨_, rfl, Or.inr ⟨rfl, fun r => q0 r.1.symm⟩, rfl⟩
set_option maxRecDepth 65536 in
set_option maxHeartbeats 40000000 in
theorem rm_eq22 (l : Launch) (Z : State) (a0 : Array Value) (hw : ∀ d ∈ tables_1, d.before a0 Z = true) (hEL : EW Z a0 []) (n0 : Nat) (a b : Addr) (s s' x y x' y' : Int32) (h : Heap)  (Ha : BI Z h a s [x, y]) (Hb : BI Z h b s' [x', y']) :
    Met l true Z [] n0 (⟨"java/math/BigInteger", "equals", "(Ljava/lang/Object;)Z"⟩ : MethodName) jdk_2097_method_124_code 7 (some .boolean) ({ frames := 0, cells := 0, slots := 0, locals := 0 } : Room) [] #[(.ref a), (.ref b)] [] h (fun v h' => ∃ c : Int32, v = some (.int c) ∧ ((c = 1 ∧ s = s' ∧ ([x, y] : List Int32) = ([x', y'] : List Int32)) ∨ (c = 0 ∧ ¬ (s = s' ∧ ([x, y] : List Int32) = ([x', y'] : List Int32)))) ∧ h' = h) := by
  refine Met.of_body (a0 := a0) (L0 := #[.val (.ref a), .val (.ref b), .unset, .unset, .unset, .unset, .unset]) (plainFor_of_name (by first | (simp [plainName, overriddenIn]; done) | decide +kernel)) (fun m => by first | rfl | (simp [entryFrame, mkF, argsToLocals, Value.category]; done)) hw hEL (by decide) ?_
  refine aloadN (pc' := 1) dbm0 rfl rfl rfl ?_
  refine aloadN (pc' := 2) dbm1 rfl rfl rfl ?_
  by_cases hab : b = a
  · skip
    refine acmp (pc' := 5) (v := (.ref b)) (w := (.ref a)) true dbm2 rfl rfl (decide_eq_true (congrArg Value.ref hab)) (by decide) rfl ?_
    refine iconst (pc' := 6) (v := (1 : Int32)) dbm5 rfl rfl ?_
    subst hab
    have u := BI.uniq Ha Hb (by simp) (by simp)
    exact retI dbm6 rfl (Or.inr (Or.inl rfl)) rfl (by decide) (by decide) ⟨_, rfl, Or.inl ⟨rfl, u⟩, rfl⟩
  · skip
    refine acmp (pc' := 7) (v := (.ref b)) (w := (.ref a)) false dbm2 rfl rfl (decide_eq_false (fun q => hab (Value.ref.inj q))) (by decide) rfl ?_
    obtain ⟨Ea, Sa, ta, ka, Ma, Aa⟩ := id Ha
    have Aa : Arv Z h ta ka .int (2 : Int32) [(.int x), (.int y)] (.int (0 : Int32)) := Aa
    obtain ⟨Eb, Sb, tb, kb, Mb, Ab⟩ := id Hb
    have Ab : Arv Z h tb kb .int (2 : Int32) [(.int x'), (.int y')] (.int (0 : Int32)) := Ab
    refine aloadN (pc' := 8) dbm7 rfl rfl rfl ?_
    refine instanceofY (i := 179) (pc' := 11) dbm8 rfl (Ins.self Eb) rfl ?_
    refine ifF (pc' := 14) dbm11 (by decide : ¬ ((1 : Int32) = (0 : Int32))) rfl ?_
    refine aloadN (pc' := 15) dbm14 rfl rfl rfl ?_
    refine checkcast (i := 179) (pc' := 18) dbm15 rfl (Ins.self Eb) rfl ?_
    refine astoreN (pc' := 19) (L' := #[.val (.ref a), .val (.ref b), .val (.ref b), .unset, .unset, .unset, .unset]) dbm18 rfl rfl rfl ?_
    refine goto (pc' := 24) dbm19 (by decide) rfl ?_
    refine aloadN (pc' := 25) dbm24 rfl rfl rfl ?_
    refine getfield (i := 34) (pc' := 28) dbm25 rfl Sb rfl ?_
    refine aloadN (pc' := 29) dbm28 rfl rfl rfl ?_
    refine getfield (i := 34) (pc' := 32) dbm29 rfl Sa rfl ?_
    refine icmp (pc' := 37) (pcF := 35) dbm32 (by decide) rfl rfl (fun (q0 : s' = s) => ?_) (fun (q0 : ¬ (s' = s)) => ?_)
    · skip
      refine aloadN (pc' := 38) dbm37 rfl rfl rfl ?_
      refine getfield (i := 131) (pc' := 41) dbm38 rfl Ma rfl ?_
      refine astoreN (pc' := 42) (L' := #[.val (.ref a), .val (.ref b), .val (.ref b), .val (.ref ta), .unset, .unset, .unset]) dbm41 rfl rfl rfl ?_
      refine aloadN (pc' := 43) dbm42 rfl rfl rfl ?_
      refine arraylength (pc' := 44) dbm43 Aa rfl ?_
      refine istore (pc' := 46) (L' := #[.val (.ref a), .val (.ref b), .val (.ref b), .val (.ref ta), .val (.int (2 : Int32)), .unset, .unset]) dbm44 rfl rfl ?_
      refine aloadN (pc' := 47) dbm46 rfl rfl rfl ?_
      refine getfield (i := 131) (pc' := 50) dbm47 rfl Mb rfl ?_
      refine astore (pc' := 52) (L' := #[.val (.ref a), .val (.ref b), .val (.ref b), .val (.ref ta), .val (.int (2 : Int32)), .val (.ref tb), .unset]) dbm50 rfl rfl rfl ?_
      refine iload (pc' := 54) dbm52 rfl rfl ?_
      refine aload (pc' := 56) dbm54 rfl rfl rfl ?_
      refine arraylength (pc' := 57) dbm56 Ab rfl ?_
      refine icmpT (pc' := 62) dbm57 (rfl : (2 : Int32) = (2 : Int32)) (by decide) rfl ?_
      refine iconst (pc' := 63) (v := (0 : Int32)) dbm62 rfl rfl ?_
      refine istore (pc' := 65) (L' := #[.val (.ref a), .val (.ref b), .val (.ref b), .val (.ref ta), .val (.int (2 : Int32)), .val (.ref tb), .val (.int (0 : Int32))]) dbm63 rfl rfl ?_
      refine iload (pc' := 67) dbm65 rfl rfl ?_
      refine iload (pc' := 69) dbm67 rfl rfl ?_
      refine icmpF (pc' := 72) dbm69 (by decide : (0 : Int32) < (2 : Int32)) rfl ?_
      refine aload (pc' := 74) dbm72 rfl rfl rfl ?_
      refine iload (pc' := 76) dbm74 rfl rfl ?_
      refine iaload (v := (.int x')) (pc' := 77) dbm76 Ab ⟨by decide, by decide⟩ rfl rfl ?_
      refine aloadN (pc' := 78) dbm77 rfl rfl rfl ?_
      refine iload (pc' := 80) dbm78 rfl rfl ?_
      refine iaload (v := (.int x)) (pc' := 81) dbm80 Aa ⟨by decide, by decide⟩ rfl rfl ?_
      refine icmp (pc' := 86) (pcF := 84) dbm81 (by decide) rfl rfl (fun (e0 : x' = x) => ?_) (fun (e0 : ¬ (x' = x)) => ?_)
      · skip
        refine iinc (pc' := 89) (v := (1 : Int32)) (L' := #[.val (.ref a), .val (.ref b), .val (.ref b), .val (.ref ta), .val (.int (2 : Int32)), .val (.ref tb), .val (.int (1 : Int32))]) dbm86 rfl rfl rfl rfl ?_
        refine goto (pc' := 65) dbm89 (by decide) rfl ?_
        refine iload (pc' := 67) dbm65 rfl rfl ?_
        refine iload (pc' := 69) dbm67 rfl rfl ?_
        refine icmpF (pc' := 72) dbm69 (by decide : (1 : Int32) < (2 : Int32)) rfl ?_
        refine aload (pc' := 74) dbm72 rfl rfl rfl ?_
        refine iload (pc' := 76) dbm74 rfl rfl ?_
        refine iaload (v := (.int y')) (pc' := 77) dbm76 Ab ⟨by decide, by decide⟩ rfl rfl ?_
        refine aloadN (pc' := 78) dbm77 rfl rfl rfl ?_
        refine iload (pc' := 80) dbm78 rfl rfl ?_
        refine iaload (v := (.int y)) (pc' := 81) dbm80 Aa ⟨by decide, by decide⟩ rfl rfl ?_
        refine icmp (pc' := 86) (pcF := 84) dbm81 (by decide) rfl rfl (fun (e1 : y' = y) => ?_) (fun (e1 : ¬ (y' = y)) => ?_)
        · skip
          refine iinc (pc' := 89) (v := (2 : Int32)) (L' := #[.val (.ref a), .val (.ref b), .val (.ref b), .val (.ref ta), .val (.int (2 : Int32)), .val (.ref tb), .val (.int (2 : Int32))]) dbm86 rfl rfl rfl rfl ?_
          refine goto (pc' := 65) dbm89 (by decide) rfl ?_
          refine iload (pc' := 67) dbm65 rfl rfl ?_
          refine iload (pc' := 69) dbm67 rfl rfl ?_
          refine icmpT (pc' := 92) dbm69 (by decide : ¬ ((2 : Int32) < (2 : Int32))) (by decide) rfl ?_
          refine iconst (pc' := 93) (v := (1 : Int32)) dbm92 rfl rfl ?_
          exact retI dbm93 rfl (Or.inr (Or.inl rfl)) rfl (by decide) (by decide) ⟨_, rfl, Or.inl ⟨rfl, q0.symm, by rw [e0, e1]⟩, rfl⟩
        · skip
          refine iconst (pc' := 85) (v := (0 : Int32)) dbm84 rfl rfl ?_
          exact retI dbm85 rfl (Or.inr (Or.inl rfl)) rfl (by decide) (by decide) ⟨_, rfl, Or.inr ⟨rfl, fun r => e1 (by injection r.2 with r1 r2; injection r2 with r3 r4; exact r3.symm)⟩, rfl⟩
      · skip
        refine iconst (pc' := 85) (v := (0 : Int32)) dbm84 rfl rfl ?_
        exact retI dbm85 rfl (Or.inr (Or.inl rfl)) rfl (by decide) (by decide) ⟨_, rfl, Or.inr ⟨rfl, fun r => e0 (by injection r.2 with r1 r2; exact r1.symm)⟩, rfl⟩
    · skip
      refine iconst (pc' := 36) (v := (0 : Int32)) dbm35 rfl rfl ?_
      exact retI dbm36 rfl (Or.inr (Or.inl rfl)) rfl (by decide) (by decide) ⟨_, rfl, Or.inr ⟨rfl, fun r => q0 r.1.symm⟩, rfl⟩
theorem rm_eq (l : Launch) (Z : State) (a0 : Array Value) (hw : ∀ d ∈ tables_1, d.before a0 Z = true) (hEL : EW Z a0 []) (n0 : Nat) (a b : Addr) (s s' : Int32) (ms ms' : List Int32) (h : Heap)  (Ha : BI Z h a s ms) (Hb : BI Z h b s' ms') (hk : Okm s ms) (hk' : Okm s' ms') :
    Met l true Z [] n0 (⟨"java/math/BigInteger", "equals", "(Ljava/lang/Object;)Z"⟩ : MethodName) jdk_2097_method_124_code 7 (some .boolean) ({ frames := 0, cells := 0, slots := 0, locals := 0 } : Room) [] #[(.ref a), (.ref b)] [] h (fun v h' => ∃ c : Int32, v = some (.int c) ∧ ((c = 1 ∧ s = s' ∧ ms = ms') ∨ (c = 0 ∧ ¬ (s = s' ∧ ms = ms'))) ∧ h' = h) := by
  rcases hk with ⟨rfl, rfl⟩ | ⟨hs, ⟨x, rfl, hx⟩ | ⟨x, y, rfl, hx⟩⟩
  · rcases hk' with ⟨rfl, rfl⟩ | ⟨hs', ⟨x', rfl, hx'⟩ | ⟨x', y', rfl, hx'⟩⟩
    · exact rm_eq00 l Z a0 hw hEL n0 a b 0 0 _ Ha Hb
    · exact rm_eq01 l Z a0 hw hEL n0 a b 0 s' x' _ Ha Hb
    · exact rm_eq02 l Z a0 hw hEL n0 a b 0 s' x' y' _ Ha Hb
  · rcases hk' with ⟨rfl, rfl⟩ | ⟨hs', ⟨x', rfl, hx'⟩ | ⟨x', y', rfl, hx'⟩⟩
    · exact rm_eq10 l Z a0 hw hEL n0 a b s 0 x _ Ha Hb
    · exact rm_eq11 l Z a0 hw hEL n0 a b s s' x x' _ Ha Hb
    · exact rm_eq12 l Z a0 hw hEL n0 a b s s' x x' y' _ Ha Hb
  · rcases hk' with ⟨rfl, rfl⟩ | ⟨hs', ⟨x', rfl, hx'⟩ | ⟨x', y', rfl, hx'⟩⟩
    · exact rm_eq20 l Z a0 hw hEL n0 a b s 0 x y _ Ha Hb
    · exact rm_eq21 l Z a0 hw hEL n0 a b s s' x y x' _ Ha Hb
    · exact rm_eq22 l Z a0 hw hEL n0 a b s s' x y x' y' _ Ha Hb
set_option maxRecDepth 65536 in
set_option maxHeartbeats 40000000 in
theorem rm_cm11 (l : Launch) (Z : State) (a0 : Array Value) (hw : ∀ d ∈ tables_1, d.before a0 Z = true) (hEL : EW Z a0 []) (n0 : Nat) (a b : Addr) (s s' x x' : Int32) (h : Heap)  (Ha : BI Z h a s [x]) (Hb : BI Z h b s' [x']) (hx : ¬ x = 0) (hx' : ¬ x' = 0) :
    Met l true Z [] n0 (⟨"java/math/BigInteger", "compareMagnitude", "(Ljava/math/BigInteger;)I"⟩ : MethodName) jdk_2097_method_122_code 9 (some .int) ({ frames := 0, cells := 0, slots := 0, locals := 0 } : Room) [] #[(.ref a), (.ref b)] [] h (fun v h' => v = some (.int (cmpI (mval [x] : Nat) (mval [x'] : Nat))) ∧ h' = h) := by
  refine Met.of_body (a0 := a0) (L0 := #[.val (.ref a), .val (.ref b), .unset, .unset, .unset, .unset, .unset, .unset, .unset]) (plainFor_of_name (by first | (simp [plainName, overriddenIn]; done) | decide +kernel)) (fun m => by first | (simp [entryFrame, mkF, argsToLocals, Value.category]; done) | rfl) hw hEL (by decide) ?_
  obtain ⟨Ea, Sa, ta, ka, Ma, Aa⟩ := id Ha
  have Aa : Arv Z h ta ka .int (1 : Int32) [(.int x)] (.int (0 : Int32)) := Aa
  obtain ⟨Eb, Sb, tb, kb, Mb, Ab⟩ := id Hb
  have Ab : Arv Z h tb kb .int (1 : Int32) [(.int x')] (.int (0 : Int32)) := Ab
  refine aloadN (pc' := 1) dbn0 rfl rfl rfl ?_
  refine getfield (i := 131) (pc' := 4) dbn1 rfl Ma rfl ?_
  refine astoreN (pc' := 5) (L' := #[.val (.ref a), .val (.ref b), .val (.ref ta), .unset, .unset, .unset, .unset, .unset, .unset]) dbn4 rfl rfl rfl ?_
  refine aloadN (pc' := 6) dbn5 rfl rfl rfl ?_
  refine arraylength (pc' := 7) dbn6 Aa rfl ?_
  refine istoreN (pc' := 8) (L' := #[.val (.ref a), .val (.ref b), .val (.ref ta), .val (.int (1 : Int32)), .unset, .unset, .unset, .unset, .unset]) dbn7 rfl rfl ?_
  refine aloadN (pc' := 9) dbn8 rfl rfl rfl ?_
  refine getfield (i := 131) (pc' := 12) dbn9 rfl Mb rfl ?_
  refine astore (pc' := 14) (L' := #[.val (.ref a), .val (.ref b), .val (.ref ta), .val (.int (1 : Int32)), .val (.ref tb), .unset, .unset, .unset, .unset]) dbn12 rfl rfl rfl ?_
  refine aload (pc' := 16) dbn14 rfl rfl rfl ?_
  refine arraylength (pc' := 17) dbn16 Ab rfl ?_
  refine istore (pc' := 19) (L' := #[.val (.ref a), .val (.ref b), .val (.ref ta), .val (.int (1 : Int32)), .val (.ref tb), .val (.int (1 : Int32)), .unset, .unset, .unset]) dbn17 rfl rfl ?_
  refine iloadN (pc' := 20) dbn19 rfl rfl ?_
  refine iload (pc' := 22) dbn20 rfl rfl ?_
  refine icmpT (pc' := 27) dbn22 (by decide : ¬ ((1 : Int32) < (1 : Int32))) (by decide) rfl ?_
  refine iloadN (pc' := 28) dbn27 rfl rfl ?_
  refine iload (pc' := 30) dbn28 rfl rfl ?_
  refine icmpT (pc' := 35) dbn30 (by decide : ¬ ((1 : Int32) < (1 : Int32))) (by decide) rfl ?_
  refine iconst (pc' := 36) (v := (0 : Int32)) dbn35 rfl rfl ?_
  refine istore (pc' := 38) (L' := #[.val (.ref a), .val (.ref b), .val (.ref ta), .val (.int (1 : Int32)), .val (.ref tb), .val (.int (1 : Int32)), .val (.int (0 : Int32)), .unset, .unset]) dbn36 rfl rfl ?_
  refine iload (pc' := 40) dbn38 rfl rfl ?_
  refine iloadN (pc' := 41) dbn40 rfl rfl ?_
  refine icmpF (pc' := 44) dbn41 (by decide : (0 : Int32) < (1 : Int32)) rfl ?_
  refine aloadN (pc' := 45) dbn44 rfl rfl rfl ?_
  refine iload (pc' := 47) dbn45 rfl rfl ?_
  refine iaload (v := (.int x)) (pc' := 48) dbn47 Aa ⟨by decide, by decide⟩ rfl rfl ?_
  refine istore (pc' := 50) (L' := #[.val (.ref a), .val (.ref b), .val (.ref ta), .val (.int (1 : Int32)), .val (.ref tb), .val (.int (1 : Int32)), .val (.int (0 : Int32)), .val (.int x), .unset]) dbn48 rfl rfl ?_
  refine aload (pc' := 52) dbn50 rfl rfl rfl ?_
  refine iload (pc' := 54) dbn52 rfl rfl ?_
  refine iaload (v := (.int x')) (pc' := 55) dbn54 Ab ⟨by decide, by decide⟩ rfl rfl ?_
  refine istore (pc' := 57) (L' := #[.val (.ref a), .val (.ref b), .val (.ref ta), .val (.int (1 : Int32)), .val (.ref tb), .val (.int (1 : Int32)), .val (.int (0 : Int32)), .val (.int x), .val (.int x')]) dbn55 rfl rfl ?_
  refine iload (pc' := 59) dbn57 rfl rfl ?_
  refine iload (pc' := 61) dbn59 rfl rfl ?_
  refine icmp (pc' := 88) (pcF := 64) dbn61 (by decide) rfl rfl (fun (e0 : x = x') => ?_) (fun (e0 : ¬ (x = x')) => ?_)
  · skip
    refine iinc (pc' := 91) (v := (1 : Int32)) (L' := #[.val (.ref a), .val (.ref b), .val (.ref ta), .val (.int (1 : Int32)), .val (.ref tb), .val (.int (1 : Int32)), .val (.int (1 : Int32)), .val (.int x), .val (.int x')]) dbn88 rfl rfl rfl rfl ?_
    refine goto (pc' := 38) dbn91 (by decide) rfl ?_
    refine iload (pc' := 40) dbn38 rfl rfl ?_
    refine iloadN (pc' := 41) dbn40 rfl rfl ?_
    refine icmpT (pc' := 94) dbn41 (by decide : ¬ ((1 : Int32) < (1 : Int32))) (by decide) rfl ?_
    refine iconst (pc' := 95) (v := (0 : Int32)) dbn94 rfl rfl ?_
    exact retI dbn95 rfl (Or.inl rfl) rfl (by decide) (by decide) ⟨by rw [cmp_eq (by rw [e0])], rfl⟩
  · skip
    refine iload (pc' := 66) dbn64 rfl rfl ?_
    refine i2l (pc' := 67) dbn66 rfl ?_
    refine ldc2Long (i := 223) (v := (4294967295 : Int64)) (pc' := 70) dbn67 rfl rfl ?_
    refine land (pc' := 71) dbn70 rfl ?_
    refine iload (pc' := 73) dbn71 rfl rfl ?_
    refine i2l (pc' := 74) dbn73 rfl ?_
    refine ldc2Long (i := 223) (v := (4294967295 : Int64)) (pc' := 77) dbn74 rfl rfl ?_
    refine land (pc' := 78) dbn77 rfl ?_
    refine lcmp (pc' := 79) dbn78 rfl ?_
    refine ifc (pc' := 86) (pcF := 82) dbn79 (by decide) rfl rfl (fun (g : ¬ ((lcmpW ((x.toInt64) &&& (4294967295 : Int64)) ((x'.toInt64) &&& (4294967295 : Int64))) < (0 : Int32))) => ?_) (fun (g : (lcmpW ((x.toInt64) &&& (4294967295 : Int64)) ((x'.toInt64) &&& (4294967295 : Int64))) < (0 : Int32)) => ?_)
    · skip
      refine iconst (pc' := 87) (v := (1 : Int32)) dbn86 rfl rfl ?_
      exact retI dbn87 rfl (Or.inl rfl) rfl (by decide) (by decide) ⟨by rw [cmp_gt (by have g2 := mt (msk_lt x x').mpr g; have g3 := un_nei e0; have p1 := un_pos hx; have p2 := un_pos hx'; have l1 := un_lt x; have l2 := un_lt x'; rw [mv1, mv1]; omega)], rfl⟩
    · skip
      refine iconst (pc' := 83) (v := (-1 : Int32)) dbn82 rfl rfl ?_
      refine goto (pc' := 87) dbn83 (by decide) rfl ?_
      exact retI dbn87 rfl (Or.inl rfl) rfl (by decide) (by decide) ⟨by rw [cmp_lt (by have g2 := (msk_lt x x').mp g; have p1 := un_pos hx; have p2 := un_pos hx'; have l1 := un_lt x; have l2 := un_lt x'; rw [mv1, mv1]; omega)], rfl⟩
set_option maxRecDepth 65536 in
set_option maxHeartbeats 40000000 in
theorem rm_cm12 (l : Launch) (Z : State) (a0 : Array Value) (hw : ∀ d ∈ tables_1, d.before a0 Z = true) (hEL : EW Z a0 []) (n0 : Nat) (a b : Addr) (s s' x x' y' : Int32) (h : Heap)  (Ha : BI Z h a s [x]) (Hb : BI Z h b s' [x', y']) (hx : ¬ x = 0) (hx' : ¬ x' = 0) :
    Met l true Z [] n0 (⟨"java/math/BigInteger", "compareMagnitude", "(Ljava/math/BigInteger;)I"⟩ : MethodName) jdk_2097_method_122_code 9 (some .int) ({ frames := 0, cells := 0, slots := 0, locals := 0 } : Room) [] #[(.ref a), (.ref b)] [] h (fun v h' => v = some (.int (cmpI (mval [x] : Nat) (mval [x', y'] : Nat))) ∧ h' = h) := by
  refine Met.of_body (a0 := a0) (L0 := #[.val (.ref a), .val (.ref b), .unset, .unset, .unset, .unset, .unset, .unset, .unset]) (plainFor_of_name (by first | (simp [plainName, overriddenIn]; done) | decide +kernel)) (fun m => by first | (simp [entryFrame, mkF, argsToLocals, Value.category]; done) | rfl) hw hEL (by decide) ?_
  obtain ⟨Ea, Sa, ta, ka, Ma, Aa⟩ := id Ha
  have Aa : Arv Z h ta ka .int (1 : Int32) [(.int x)] (.int (0 : Int32)) := Aa
  obtain ⟨Eb, Sb, tb, kb, Mb, Ab⟩ := id Hb
  have Ab : Arv Z h tb kb .int (2 : Int32) [(.int x'), (.int y')] (.int (0 : Int32)) := Ab
  refine aloadN (pc' := 1) dbn0 rfl rfl rfl ?_
  refine getfield (i := 131) (pc' := 4) dbn1 rfl Ma rfl ?_
  refine astoreN (pc' := 5) (L' := #[.val (.ref a), .val (.ref b), .val (.ref ta), .unset, .unset, .unset, .unset, .unset, .unset]) dbn4 rfl rfl rfl ?_
  refine aloadN (pc' := 6) dbn5 rfl rfl rfl ?_
  refine arraylength (pc' := 7) dbn6 Aa rfl ?_
  refine istoreN (pc' := 8) (L' := #[.val (.ref a), .val (.ref b), .val (.ref ta), .val (.int (1 : Int32)), .unset, .unset, .unset, .unset, .unset]) dbn7 rfl rfl ?_
  refine aloadN (pc' := 9) dbn8 rfl rfl rfl ?_
  refine getfield (i := 131) (pc' := 12) dbn9 rfl Mb rfl ?_
  refine astore (pc' := 14) (L' := #[.val (.ref a), .val (.ref b), .val (.ref ta), .val (.int (1 : Int32)), .val (.ref tb), .unset, .unset, .unset, .unset]) dbn12 rfl rfl rfl ?_
  refine aload (pc' := 16) dbn14 rfl rfl rfl ?_
  refine arraylength (pc' := 17) dbn16 Ab rfl ?_
  refine istore (pc' := 19) (L' := #[.val (.ref a), .val (.ref b), .val (.ref ta), .val (.int (1 : Int32)), .val (.ref tb), .val (.int (2 : Int32)), .unset, .unset, .unset]) dbn17 rfl rfl ?_
  refine iloadN (pc' := 20) dbn19 rfl rfl ?_
  refine iload (pc' := 22) dbn20 rfl rfl ?_
  refine icmpF (pc' := 25) dbn22 (by decide : (1 : Int32) < (2 : Int32)) rfl ?_
  refine iconst (pc' := 26) (v := (-1 : Int32)) dbn25 rfl rfl ?_
  exact retI dbn26 rfl (Or.inl rfl) rfl (by decide) (by decide) ⟨by rw [cmp_lt (by have p1 := un_pos hx; have p2 := un_pos hx'; have l1 := un_lt x; have l2 := un_lt x'; rw [mv1, mv2]; omega)], rfl⟩
set_option maxRecDepth 65536 in
set_option maxHeartbeats 40000000 in
theorem rm_cm21 (l : Launch) (Z : State) (a0 : Array Value) (hw : ∀ d ∈ tables_1, d.before a0 Z = true) (hEL : EW Z a0 []) (n0 : Nat) (a b : Addr) (s s' x y x' : Int32) (h : Heap)  (Ha : BI Z h a s [x, y]) (Hb : BI Z h b s' [x']) (hx : ¬ x = 0) (hx' : ¬ x' = 0) :
    Met l true Z [] n0 (⟨"java/math/BigInteger", "compareMagnitude", "(Ljava/math/BigInteger;)I"⟩ : MethodName) jdk_2097_method_122_code 9 (some .int) ({ frames := 0, cells := 0, slots := 0, locals := 0 } : Room) [] #[(.ref a), (.ref b)] [] h (fun v h' => v = some (.int (cmpI (mval [x, y] : Nat) (mval [x'] : Nat))) ∧ h' = h) := by
  refine Met.of_body (a0 := a0) (L0 := #[.val (.ref a), .val (.ref b), .unset, .unset, .unset, .unset, .unset, .unset, .unset]) (plainFor_of_name (by first | (simp [plainName, overriddenIn]; done) | decide +kernel)) (fun m => by first | (simp [entryFrame, mkF, argsToLocals, Value.category]; done) | rfl) hw hEL (by decide) ?_
  obtain ⟨Ea, Sa, ta, ka, Ma, Aa⟩ := id Ha
  have Aa : Arv Z h ta ka .int (2 : Int32) [(.int x), (.int y)] (.int (0 : Int32)) := Aa
  obtain ⟨Eb, Sb, tb, kb, Mb, Ab⟩ := id Hb
  have Ab : Arv Z h tb kb .int (1 : Int32) [(.int x')] (.int (0 : Int32)) := Ab
  refine aloadN (pc' := 1) dbn0 rfl rfl rfl ?_
  refine getfield (i := 131) (pc' := 4) dbn1 rfl Ma rfl ?_
  refine astoreN (pc' := 5) (L' := #[.val (.ref a), .val (.ref b), .val (.ref ta), .unset, .unset, .unset, .unset, .unset, .unset]) dbn4 rfl rfl rfl ?_
  refine aloadN (pc' := 6) dbn5 rfl rfl rfl ?_
  refine arraylength (pc' := 7) dbn6 Aa rfl ?_
  refine istoreN (pc' := 8) (L' := #[.val (.ref a), .val (.ref b), .val (.ref ta), .val (.int (2 : Int32)), .unset, .unset, .unset, .unset, .unset]) dbn7 rfl rfl ?_
  refine aloadN (pc' := 9) dbn8 rfl rfl rfl ?_
  refine getfield (i := 131) (pc' := 12) dbn9 rfl Mb rfl ?_
  refine astore (pc' := 14) (L' := #[.val (.ref a), .val (.ref b), .val (.ref ta), .val (.int (2 : Int32)), .val (.ref tb), .unset, .unset, .unset, .unset]) dbn12 rfl rfl rfl ?_
  refine aload (pc' := 16) dbn14 rfl rfl rfl ?_
  refine arraylength (pc' := 17) dbn16 Ab rfl ?_
  refine istore (pc' := 19) (L' := #[.val (.ref a), .val (.ref b), .val (.ref ta), .val (.int (2 : Int32)), .val (.ref tb), .val (.int (1 : Int32)), .unset, .unset, .unset]) dbn17 rfl rfl ?_
  refine iloadN (pc' := 20) dbn19 rfl rfl ?_
  refine iload (pc' := 22) dbn20 rfl rfl ?_
  refine icmpT (pc' := 27) dbn22 (by decide : ¬ ((2 : Int32) < (1 : Int32))) (by decide) rfl ?_
  refine iloadN (pc' := 28) dbn27 rfl rfl ?_
  refine iload (pc' := 30) dbn28 rfl rfl ?_
  refine icmpF (pc' := 33) dbn30 (by decide : (1 : Int32) < (2 : Int32)) rfl ?_
  refine iconst (pc' := 34) (v := (1 : Int32)) dbn33 rfl rfl ?_
  exact retI dbn34 rfl (Or.inl rfl) rfl (by decide) (by decide) ⟨by rw [cmp_gt (by have p1 := un_pos hx; have p2 := un_pos hx'; have l1 := un_lt x; have l2 := un_lt x'; rw [mv2, mv1]; omega)], rfl⟩
set_option maxRecDepth 65536 in
set_option maxHeartbeats 40000000 in
theorem rm_cm22 (l : Launch) (Z : State) (a0 : Array Value) (hw : ∀ d ∈ tables_1, d.before a0 Z = true) (hEL : EW Z a0 []) (n0 : Nat) (a b : Addr) (s s' x y x' y' : Int32) (h : Heap)  (Ha : BI Z h a s [x, y]) (Hb : BI Z h b s' [x', y']) (hx : ¬ x = 0) (hx' : ¬ x' = 0) :
    Met l true Z [] n0 (⟨"java/math/BigInteger", "compareMagnitude", "(Ljava/math/BigInteger;)I"⟩ : MethodName) jdk_2097_method_122_code 9 (some .int) ({ frames := 0, cells := 0, slots := 0, locals := 0 } : Room) [] #[(.ref a), (.ref b)] [] h (fun v h' => v = some (.int (cmpI (mval [x, y] : Nat) (mval [x', y'] : Nat))) ∧ h' = h) := by
  refine Met.of_body (a0 := a0) (L0 := #[.val (.ref a), .val (.ref b), .unset, .unset, .unset, .unset, .unset, .unset, .unset]) (plainFor_of_name (by first | (simp [plainName, overriddenIn]; done) | decide +kernel)) (fun m => by first | (simp [entryFrame, mkF, argsToLocals, Value.category]; done) | rfl) hw hEL (by decide) ?_
  obtain ⟨Ea, Sa, ta, ka, Ma, Aa⟩ := id Ha
  have Aa : Arv Z h ta ka .int (2 : Int32) [(.int x), (.int y)] (.int (0 : Int32)) := Aa
  obtain ⟨Eb, Sb, tb, kb, Mb, Ab⟩ := id Hb
  have Ab : Arv Z h tb kb .int (2 : Int32) [(.int x'), (.int y')] (.int (0 : Int32)) := Ab
  refine aloadN (pc' := 1) dbn0 rfl rfl rfl ?_
  refine getfield (i := 131) (pc' := 4) dbn1 rfl Ma rfl ?_
  refine astoreN (pc' := 5) (L' := #[.val (.ref a), .val (.ref b), .val (.ref ta), .unset, .unset, .unset, .unset, .unset, .unset]) dbn4 rfl rfl rfl ?_
  refine aloadN (pc' := 6) dbn5 rfl rfl rfl ?_
  refine arraylength (pc' := 7) dbn6 Aa rfl ?_
  refine istoreN (pc' := 8) (L' := #[.val (.ref a), .val (.ref b), .val (.ref ta), .val (.int (2 : Int32)), .unset, .unset, .unset, .unset, .unset]) dbn7 rfl rfl ?_
  refine aloadN (pc' := 9) dbn8 rfl rfl rfl ?_
  refine getfield (i := 131) (pc' := 12) dbn9 rfl Mb rfl ?_
  refine astore (pc' := 14) (L' := #[.val (.ref a), .val (.ref b), .val (.ref ta), .val (.int (2 : Int32)), .val (.ref tb), .unset, .unset, .unset, .unset]) dbn12 rfl rfl rfl ?_
  refine aload (pc' := 16) dbn14 rfl rfl rfl ?_
  refine arraylength (pc' := 17) dbn16 Ab rfl ?_
  refine istore (pc' := 19) (L' := #[.val (.ref a), .val (.ref b), .val (.ref ta), .val (.int (2 : Int32)), .val (.ref tb), .val (.int (2 : Int32)), .unset, .unset, .unset]) dbn17 rfl rfl ?_
  refine iloadN (pc' := 20) dbn19 rfl rfl ?_
  refine iload (pc' := 22) dbn20 rfl rfl ?_
  refine icmpT (pc' := 27) dbn22 (by decide : ¬ ((2 : Int32) < (2 : Int32))) (by decide) rfl ?_
  refine iloadN (pc' := 28) dbn27 rfl rfl ?_
  refine iload (pc' := 30) dbn28 rfl rfl ?_
  refine icmpT (pc' := 35) dbn30 (by decide : ¬ ((2 : Int32) < (2 : Int32))) (by decide) rfl ?_
  refine iconst (pc' := 36) (v := (0 : Int32)) dbn35 rfl rfl ?_
  refine istore (pc' := 38) (L' := #[.val (.ref a), .val (.ref b), .val (.ref ta), .val (.int (2 : Int32)), .val (.ref tb), .val (.int (2 : Int32)), .val (.int (0 : Int32)), .unset, .unset]) dbn36 rfl rfl ?_
  refine iload (pc' := 40) dbn38 rfl rfl ?_
  refine iloadN (pc' := 41) dbn40 rfl rfl ?_
  refine icmpF (pc' := 44) dbn41 (by decide : (0 : Int32) < (2 : Int32)) rfl ?_
  refine aloadN (pc' := 45) dbn44 rfl rfl rfl ?_
  refine iload (pc' := 47) dbn45 rfl rfl ?_
  refine iaload (v := (.int x)) (pc' := 48) dbn47 Aa ⟨by decide, by decide⟩ rfl rfl ?_
  refine istore (pc' := 50) (L' := #[.val (.ref a), .val (.ref b), .val (.ref ta), .val (.int (2 : Int32)), .val (.ref tb), .val (.int (2 : Int32)), .val (.int (0 : Int32)), .val (.int x), .unset]) dbn48 rfl rfl ?_
  refine aload (pc' := 52) dbn50 rfl rfl rfl ?_
  refine iload (pc' := 54) dbn52 rfl rfl ?_
  refine iaload (v := (.int x')) (pc' := 55) dbn54 Ab ⟨by decide, by decide⟩ rfl rfl ?_
  refine istore (pc' := 57) (L' := #[.val (.ref a), .val (.ref b), .val (.ref ta), .val (.int (2 : Int32)), .val (.ref tb), .val (.int (2 : Int32)), .val (.int (0 : Int32)), .val (.int x), .val (.int x')]) dbn55 rfl rfl ?_
  refine iload (pc' := 59) dbn57 rfl rfl ?_
  refine iload (pc' := 61) dbn59 rfl rfl ?_
  refine icmp (pc' := 88) (pcF := 64) dbn61 (by decide) rfl rfl (fun (e0 : x = x') => ?_) (fun (e0 : ¬ (x = x')) => ?_)
  · skip
    refine iinc (pc' := 91) (v := (1 : Int32)) (L' := #[.val (.ref a), .val (.ref b), .val (.ref ta), .val (.int (2 : Int32)), .val (.ref tb), .val (.int (2 : Int32)), .val (.int (1 : Int32)), .val (.int x), .val (.int x')]) dbn88 rfl rfl rfl rfl ?_
    refine goto (pc' := 38) dbn91 (by decide) rfl ?_
    refine iload (pc' := 40) dbn38 rfl rfl ?_
    refine iloadN (pc' := 41) dbn40 rfl rfl ?_
    refine icmpF (pc' := 44) dbn41 (by decide : (1 : Int32) < (2 : Int32)) rfl ?_
    refine aloadN (pc' := 45) dbn44 rfl rfl rfl ?_
    refine iload (pc' := 47) dbn45 rfl rfl ?_
    refine iaload (v := (.int y)) (pc' := 48) dbn47 Aa ⟨by decide, by decide⟩ rfl rfl ?_
    refine istore (pc' := 50) (L' := #[.val (.ref a), .val (.ref b), .val (.ref ta), .val (.int (2 : Int32)), .val (.ref tb), .val (.int (2 : Int32)), .val (.int (1 : Int32)), .val (.int y), .val (.int x')]) dbn48 rfl rfl ?_
    refine aload (pc' := 52) dbn50 rfl rfl rfl ?_
    refine iload (pc' := 54) dbn52 rfl rfl ?_
    refine iaload (v := (.int y')) (pc' := 55) dbn54 Ab ⟨by decide, by decide⟩ rfl rfl ?_
    refine istore (pc' := 57) (L' := #[.val (.ref a), .val (.ref b), .val (.ref ta), .val (.int (2 : Int32)), .val (.ref tb), .val (.int (2 : Int32)), .val (.int (1 : Int32)), .val (.int y), .val (.int y')]) dbn55 rfl rfl ?_
    refine iload (pc' := 59) dbn57 rfl rfl ?_
    refine iload (pc' := 61) dbn59 rfl rfl ?_
    refine icmp (pc' := 88) (pcF := 64) dbn61 (by decide) rfl rfl (fun (e1 : y = y') => ?_) (fun (e1 : ¬ (y = y')) => ?_)
    · skip
      refine iinc (pc' := 91) (v := (2 : Int32)) (L' := #[.val (.ref a), .val (.ref b), .val (.ref ta), .val (.int (2 : Int32)), .val (.ref tb), .val (.int (2 : Int32)), .val (.int (2 : Int32)), .val (.int y), .val (.int y')]) dbn88 rfl rfl rfl rfl ?_
      refine goto (pc' := 38) dbn91 (by decide) rfl ?_
      refine iload (pc' := 40) dbn38 rfl rfl ?_
      refine iloadN (pc' := 41) dbn40 rfl rfl ?_
      refine icmpT (pc' := 94) dbn41 (by decide : ¬ ((2 : Int32) < (2 : Int32))) (by decide) rfl ?_
      refine iconst (pc' := 95) (v := (0 : Int32)) dbn94 rfl rfl ?_
      exact retI dbn95 rfl (Or.inl rfl) rfl (by decide) (by decide) ⟨by rw [cmp_eq (by rw [e0, e1])], rfl⟩
    · skip
      refine iload (pc' := 66) dbn64 rfl rfl ?_
      refine i2l (pc' := 67) dbn66 rfl ?_
      refine ldc2Long (i := 223) (v := (4294967295 : Int64)) (pc' := 70) dbn67 rfl rfl ?_
      refine land (pc' := 71) dbn70 rfl ?_
      refine iload (pc' := 73) dbn71 rfl rfl ?_
      refine i2l (pc' := 74) dbn73 rfl ?_
      refine ldc2Long (i := 223) (v := (4294967295 : Int64)) (pc' := 77) dbn74 rfl rfl ?_
      refine land (pc' := 78) dbn77 rfl ?_
      refine lcmp (pc' := 79) dbn78 rfl ?_
      refine ifc (pc' := 86) (pcF := 82) dbn79 (by decide) rfl rfl (fun (g : ¬ ((lcmpW ((y.toInt64) &&& (4294967295 : Int64)) ((y'.toInt64) &&& (4294967295 : Int64))) < (0 : Int32))) => ?_) (fun (g : (lcmpW ((y.toInt64) &&& (4294967295 : Int64)) ((y'.toInt64) &&& (4294967295 : Int64))) < (0 : Int32)) => ?_)
      · skip
        refine iconst (pc' := 87) (v := (1 : Int32)) dbn86 rfl rfl ?_
        exact retI dbn87 rfl (Or.inl rfl) rfl (by decide) (by decide) ⟨by rw [cmp_gt (by have l3 := un_lt y; have l4 := un_lt y'; have e := congrArg un e0; have g2 := mt (msk_lt y y').mpr g; have g3 := un_nei e1; have p1 := un_pos hx; have p2 := un_pos hx'; have l1 := un_lt x; have l2 := un_lt x'; rw [mv2, mv2]; omega)], rfl⟩
      · skip
        refine iconst (pc' := 83) (v := (-1 : Int32)) dbn82 rfl rfl ?_
        refine goto (pc' := 87) dbn83 (by decide) rfl ?_
        exact retI dbn87 rfl (Or.inl rfl) rfl (by decide) (by decide) ⟨by rw [cmp_lt (by have l3 := un_lt y; have l4 := un_lt y'; have e := congrArg un e0; have g2 := (msk_lt y y').mp g; have p1 := un_pos hx; have p2 := un_pos hx'; have l1 := un_lt x; have l2 := un_lt x'; rw [mv2, mv2]; omega)], rfl⟩
  · skip
    refine iload (pc' := 66) dbn64 rfl rfl ?_
    refine i2l (pc' := 67) dbn66 rfl ?_
    refine ldc2Long (i := 223) (v := (4294967295 : Int64)) (pc' := 70) dbn67 rfl rfl ?_
    refine land (pc' := 71) dbn70 rfl ?_
    refine iload (pc' := 73) dbn71 rfl rfl ?_
    refine i2l (pc' := 74) dbn73 rfl ?_
    refine ldc2Long (i := 223) (v := (4294967295 : Int64)) (pc' := 77) dbn74 rfl rfl ?_
    refine land (pc' := 78) dbn77 rfl ?_
    refine lcmp (pc' := 79) dbn78 rfl ?_
    refine ifc (pc' := 86) (pcF := 82) dbn79 (by decide) rfl rfl (fun (g : ¬ ((lcmpW ((x.toInt64) &&& (4294967295 : Int64)) ((x'.toInt64) &&& (4294967295 : Int64))) < (0 : Int32))) => ?_) (fun (g : (lcmpW ((x.toInt64) &&& (4294967295 : Int64)) ((x'.toInt64) &&& (4294967295 : Int64))) < (0 : Int32)) => ?_)
    · skip
      refine iconst (pc' := 87) (v := (1 : Int32)) dbn86 rfl rfl ?_
      exact retI dbn87 rfl (Or.inl rfl) rfl (by decide) (by decide) ⟨by rw [cmp_gt (by have l3 := un_lt y; have l4 := un_lt y'; have g2 := mt (msk_lt x x').mpr g; have g3 := un_nei e0; have p1 := un_pos hx; have p2 := un_pos hx'; have l1 := un_lt x; have l2 := un_lt x'; rw [mv2, mv2]; omega)], rfl⟩
    · skip
      refine iconst (pc' := 83) (v := (-1 : Int32)) dbn82 rfl rfl ?_
      refine goto (pc' := 87) dbn83 (by decide) rfl ?_
      exact retI dbn87 rfl (Or.inl rfl) rfl (by decide) (by decide) ⟨by rw [cmp_lt (by have l3 := un_lt y; have l4 := un_lt y'; have g2 := (msk_lt x x').mp g; have p1 := un_pos hx; have p2 := un_pos hx'; have l1 := un_lt x; have l2 := un_lt x'; rw [mv2, mv2]; omega)], rfl⟩
set_option maxRecDepth 65536 in
set_option maxHeartbeats 40000000 in
theorem rm_ct (l : Launch) (Z : State) (a0 : Array Value) (hw : ∀ d ∈ tables_1, d.before a0 Z = true) (hEL : EW Z a0 []) (n0 : Nat) (a b : Addr) (s s' : Int32) (ms ms' : List Int32) (h : Heap)  (Ha : BI Z h a s ms) (Hb : BI Z h b s' ms') (hk : Okm s ms) (hk' : Okm s' ms') :
    Met l true Z [] n0 (⟨"java/math/BigInteger", "compareTo", "(Ljava/math/BigInteger;)I"⟩ : MethodName) jdk_2097_method_121_code 2 (some .int) ({ frames := 1, cells := 0, slots := 0, locals := 40 } : Room) [] #[(.ref a), (.ref b)] [] h (fun v h' => v = some (.int (cmpI (ival s ms) (ival s' ms'))) ∧ h' = h) := by
  refine Met.of_body (a0 := a0) (L0 := #[.val (.ref a), .val (.ref b)]) (plainFor_of_name (by first | (simp [plainName, overriddenIn]; done) | decide +kernel)) (fun m => by first | rfl | (simp [entryFrame, mkF, argsToLocals, Value.category]; done)) hw hEL (by decide) ?_
  rcases hk with ⟨rfl, rfl⟩ | ⟨rfl | rfl, ⟨x, rfl, hx⟩ | ⟨x, y, rfl, hx⟩⟩
  · skip
    rcases hk' with ⟨rfl, rfl⟩ | ⟨rfl | rfl, ⟨x', rfl, hx'⟩ | ⟨x', y', rfl, hx'⟩⟩
    · skip
      obtain ⟨Ea, Sa, -⟩ := id Ha
      obtain ⟨Eb, Sb, -⟩ := id Hb
      refine aloadN (pc' := 1) dbo0 rfl rfl rfl ?_
      refine getfield (i := 34) (pc' := 4) dbo1 rfl Sa rfl ?_
      refine aloadN (pc' := 5) dbo4 rfl rfl rfl ?_
      refine getfield (i := 34) (pc' := 8) dbo5 rfl Sb rfl ?_
      refine icmpF (pc' := 11) dbo8 (rfl : (0 : Int32) = (0 : Int32)) rfl ?_
      refine aloadN (pc' := 12) dbo11 rfl rfl rfl ?_
      refine getfield (i := 34) (pc' := 15) dbo12 rfl Sa rfl ?_
      refine lswMiss (pc' := 56) dbo15 (by decide) (by decide) (by decide) (by decide) ?_
      refine iconst (pc' := 57) (v := (0 : Int32)) dbo56 rfl rfl ?_
      exact retI dbo57 rfl (Or.inl rfl) rfl (by decide) (by decide) ⟨rfl, rfl⟩
    · skip
      obtain ⟨Ea, Sa, -⟩ := id Ha
      obtain ⟨Eb, Sb, -⟩ := id Hb
      refine aloadN (pc' := 1) dbo0 rfl rfl rfl ?_
      refine getfield (i := 34) (pc' := 4) dbo1 rfl Sa rfl ?_
      refine aloadN (pc' := 5) dbo4 rfl rfl rfl ?_
      refine getfield (i := 34) (pc' := 8) dbo5 rfl Sb rfl ?_
      refine icmpT (pc' := 58) dbo8 (by decide : ¬ ((0 : Int32) = (1 : Int32))) (by decide) rfl ?_
      refine aloadN (pc' := 59) dbo58 rfl rfl rfl ?_
      refine getfield (i := 34) (pc' := 62) dbo59 rfl Sa rfl ?_
      refine aloadN (pc' := 63) dbo62 rfl rfl rfl ?_
      refine getfield (i := 34) (pc' := 66) dbo63 rfl Sb rfl ?_
      refine icmpT (pc' := 73) dbo66 (by decide : ¬ ((1 : Int32) < (0 : Int32))) (by decide) rfl ?_
      refine iconst (pc' := 74) (v := (-1 : Int32)) dbo73 rfl rfl ?_
      exact retI dbo74 rfl (Or.inl rfl) rfl (by decide) (by decide) ⟨by rw [ival0, ival1, cmp_lt (by have p1 := un_pos hx'; rw [mv1]; omega)], rfl⟩
    · skip
      obtain ⟨Ea, Sa, -⟩ := id Ha
      obtain ⟨Eb, Sb, -⟩ := id Hb
      refine aloadN (pc' := 1) dbo0 rfl rfl rfl ?_
      refine getfield (i := 34) (pc' := 4) dbo1 rfl Sa rfl ?_
      refine aloadN (pc' := 5) dbo4 rfl rfl rfl ?_
      refine getfield (i := 34) (pc' := 8) dbo5 rfl Sb rfl ?_
      refine icmpT (pc' := 58) dbo8 (by decide : ¬ ((0 : Int32) = (1 : Int32))) (by decide) rfl ?_
      refine aloadN (pc' := 59) dbo58 rfl rfl rfl ?_
      refine getfield (i := 34) (pc' := 62) dbo59 rfl Sa rfl ?_
      refine aloadN (pc' := 63) dbo62 rfl rfl rfl ?_
      refine getfield (i := 34) (pc' := 66) dbo63 rfl Sb rfl ?_
      refine icmpT (pc' := 73) dbo66 (by decide : ¬ ((1 : Int32) < (0 : Int32))) (by decide) rfl ?_
      refine iconst (pc' := 74) (v := (-1 : Int32)) dbo73 rfl rfl ?_
      exact retI dbo74 rfl (Or.inl rfl) rfl (by decide) (by decide) ⟨by rw [ival0, ival1, cmp_lt (by have p1 := un_pos hx'; rw [mv2]; omega)], rfl⟩
    · skip
      obtain ⟨Ea, Sa, -⟩ := id Ha
      obtain ⟨Eb, Sb, -⟩ := id Hb
      refine aloadN (pc' := 1) dbo0 rfl rfl rfl ?_
      refine getfield (i := 34) (pc' := 4) dbo1 rfl Sa rfl ?_
      refine aloadN (pc' := 5) dbo4 rfl rfl rfl ?_
      refine getfield (i := 34) (pc' := 8) dbo5 rfl Sb rfl ?_
      refine icmpT (pc' := 58) dbo8 (by decide : ¬ ((0 : Int32) = (-1 : Int32))) (by decide) rfl ?_
      refine aloadN (pc' := 59) dbo58 rfl rfl rfl ?_
      refine getfield (i := 34) (pc' := 62) dbo59 rfl Sa rfl ?_
      refine aloadN (pc' := 63) dbo62 rfl rfl rfl ?_
      refine getfield (i := 34) (pc' := 66) dbo63 rfl Sb rfl ?_
      refine icmpF (pc' := 69) dbo66 (by decide : (-1 : Int32) < (0 : Int32)) rfl ?_
      refine iconst (pc' := 70) (v := (1 : Int32)) dbo69 rfl rfl ?_
      refine goto (pc' := 74) dbo70 (by decide) rfl ?_
      exact retI dbo74 rfl (Or.inl rfl) rfl (by decide) (by decide) ⟨by rw [ival0, ivalm, cmp_gt (by have p1 := un_pos hx'; rw [mv1]; omega)], rfl⟩
    · skip
      obtain ⟨Ea, Sa, -⟩ := id Ha
      obtain ⟨Eb, Sb, -⟩ := id Hb
      refine aloadN (pc' := 1) dbo0 rfl rfl rfl ?_
      refine getfield (i := 34) (pc' := 4) dbo1 rfl Sa rfl ?_
      refine aloadN (pc' := 5) dbo4 rfl rfl rfl ?_
      refine getfield (i := 34) (pc' := 8) dbo5 rfl Sb rfl ?_
      refine icmpT (pc' := 58) dbo8 (by decide : ¬ ((0 : Int32) = (-1 : Int32))) (by decide) rfl ?_
      refine aloadN (pc' := 59) dbo58 rfl rfl rfl ?_
      refine getfield (i := 34) (pc' := 62) dbo59 rfl Sa rfl ?_
      refine aloadN (pc' := 63) dbo62 rfl rfl rfl ?_
      refine getfield (i := 34) (pc' := 66) dbo63 rfl Sb rfl ?_
      refine icmpF (pc' := 69) dbo66 (by decide : (-1 : Int32) < (0 : Int32)) rfl ?_
      refine iconst (pc' := 70) (v := (1 : Int32)) dbo69 rfl rfl ?_
      refine goto (pc' := 74) dbo70 (by decide) rfl ?_
      exact retI dbo74 rfl (Or.inl rfl) rfl (by decide) (by decide) ⟨by rw [ival0, ivalm, cmp_gt (by have p1 := un_pos hx'; rw [mv2]; omega)], rfl⟩
  · skip
    rcases hk' with ⟨rfl, rfl⟩ | ⟨rfl | rfl, ⟨x', rfl, hx'⟩ | ⟨x', y', rfl, hx'⟩⟩
    · skip
      obtain ⟨Ea, Sa, -⟩ := id Ha
      obtain ⟨Eb, Sb, -⟩ := id Hb
      refine aloadN (pc' := 1) dbo0 rfl rfl rfl ?_
      refine getfield (i := 34) (pc' := 4) dbo1 rfl Sa rfl ?_
      refine aloadN (pc' := 5) dbo4 rfl rfl rfl ?_
      refine getfield (i := 34) (pc' := 8) dbo5 rfl Sb rfl ?_
      refine icmpT (pc' := 58) dbo8 (by decide : ¬ ((1 : Int32) = (0 : Int32))) (by decide) rfl ?_
      refine aloadN (pc' := 59) dbo58 rfl rfl rfl ?_
      refine getfield (i := 34) (pc' := 62) dbo59 rfl Sa rfl ?_
      refine aloadN (pc' := 63) dbo62 rfl rfl rfl ?_
      refine getfield (i := 34) (pc' := 66) dbo63 rfl Sb rfl ?_
      refine icmpF (pc' := 69) dbo66 (by decide : (0 : Int32) < (1 : Int32)) rfl ?_
      refine iconst (pc' := 70) (v := (1 : Int32)) dbo69 rfl rfl ?_
      refine goto (pc' := 74) dbo70 (by decide) rfl ?_
      exact retI dbo74 rfl (Or.inl rfl) rfl (by decide) (by decide) ⟨by rw [ival1, ival0, cmp_gt (by have p0 := un_pos hx; rw [mv1]; omega)], rfl⟩
    · skip
      obtain ⟨Ea, Sa, -⟩ := id Ha
      obtain ⟨Eb, Sb, -⟩ := id Hb
      refine aloadN (pc' := 1) dbo0 rfl rfl rfl ?_
      refine getfield (i := 34) (pc' := 4) dbo1 rfl Sa rfl ?_
      refine aloadN (pc' := 5) dbo4 rfl rfl rfl ?_
      refine getfield (i := 34) (pc' := 8) dbo5 rfl Sb rfl ?_
      refine icmpF (pc' := 11) dbo8 (rfl : (1 : Int32) = (1 : Int32)) rfl ?_
      refine aloadN (pc' := 12) dbo11 rfl rfl rfl ?_
      refine getfield (i := 34) (pc' := 15) dbo12 rfl Sa rfl ?_
      refine lswHit (a := 1) (off := 25) (pc' := 40) dbo15 (by decide) (by decide) (by decide) (by decide) ?_
      refine aloadN (pc' := 41) dbo40 rfl rfl rfl ?_
      refine aloadN (pc' := 42) dbo41 rfl rfl rfl ?_
      refine call (i := 222) (i2 := 8) (Wd := 0) (pc' := 45) (kVirt (i := 218) (i2 := 219) (i3 := 221) (i4 := 220) (C := "java/math/BigInteger") (a := a) (argsL := [(.ref b)]) (S' := []) (Wd := 0) dbo42 rfl rfl rfl rfl Ea (by decide) rfl pd_23 rfl rfl (Nat.le_of_ble_eq_true rfl)) (rm_cm11 l Z a0 hw hEL n0 a b _ _ x x' _ Ha Hb hx hx') rfl rfl (by simp) (by decide) (by decide) (by decide) (by decide) rfl fun v_ h731 P732 sz733 => ?_
      obtain ⟨rfl, e734⟩ := P732
      rw [e734]
      refine at' (ce' := 0) (sl' := 0) (pc' := 45) (S' := [(.int (cmpI (mval [x] : Nat) (mval [x'] : Nat)))]) rfl rfl rfl rfl rfl ?_
      refine goto (pc' := 57) dbo45 (by decide) rfl ?_
      exact retI dbo57 rfl (Or.inl rfl) rfl (by decide) (by decide) ⟨by rw [ival1, ival1], rfl⟩
    · skip
      obtain ⟨Ea, Sa, -⟩ := id Ha
      obtain ⟨Eb, Sb, -⟩ := id Hb
      refine aloadN (pc' := 1) dbo0 rfl rfl rfl ?_
      refine getfield (i := 34) (pc' := 4) dbo1 rfl Sa rfl ?_
      refine aloadN (pc' := 5) dbo4 rfl rfl rfl ?_
      refine getfield (i := 34) (pc' := 8) dbo5 rfl Sb rfl ?_
      refine icmpF (pc' := 11) dbo8 (rfl : (1 : Int32) = (1 : Int32)) rfl ?_
      refine aloadN (pc' := 12) dbo11 rfl rfl rfl ?_
      refine getfield (i := 34) (pc' := 15) dbo12 rfl Sa rfl ?_
      refine lswHit (a := 1) (off := 25) (pc' := 40) dbo15 (by decide) (by decide) (by decide) (by decide) ?_
      refine aloadN (pc' := 41) dbo40 rfl rfl rfl ?_
      refine aloadN (pc' := 42) dbo41 rfl rfl rfl ?_
      refine call (i := 222) (i2 := 8) (Wd := 0) (pc' := 45) (kVirt (i := 218) (i2 := 219) (i3 := 221) (i4 := 220) (C := "java/math/BigInteger") (a := a) (argsL := [(.ref b)]) (S' := []) (Wd := 0) dbo42 rfl rfl rfl rfl Ea (by decide) rfl pd_23 rfl rfl (Nat.le_of_ble_eq_true rfl)) (rm_cm12 l Z a0 hw hEL n0 a b _ _ x x' y' _ Ha Hb hx hx') rfl rfl (by simp) (by decide) (by decide) (by decide) (by decide) rfl fun v_ h735 P736 sz737 => ?_
      obtain ⟨rfl, e738⟩ := P736
      rw [e738]
      refine at' (ce' := 0) (sl' := 0) (pc' := 45) (S' := [(.int (cmpI (mval [x] : Nat) (mval [x', y'] : Nat)))]) rfl rfl rfl rfl rfl ?_
      refine goto (pc' := 57) dbo45 (by decide) rfl ?_
      exact retI dbo57 rfl (Or.inl rfl) rfl (by decide) (by decide) ⟨by rw [ival1, ival1], rfl⟩
    · skip
      obtain ⟨Ea, Sa, -⟩ := id Ha
      obtain ⟨Eb, Sb, -⟩ := id Hb
      refine aloadN (pc' := 1) dbo0 rfl rfl rfl ?_
      refine getfield (i := 34) (pc' := 4) dbo1 rfl Sa rfl ?_
      refine aloadN (pc' := 5) dbo4 rfl rfl rfl ?_
      refine getfield (i := 34) (pc' := 8) dbo5 rfl Sb rfl ?_
      refine icmpT (pc' := 58) dbo8 (by decide : ¬ ((1 : Int32) = (-1 : Int32))) (by decide) rfl ?_
      refine aloadN (pc' := 59) dbo58 rfl rfl rfl ?_
      refine getfield (i := 34) (pc' := 62) dbo59 rfl Sa rfl ?_
      refine aloadN (pc' := 63) dbo62 rfl rfl rfl ?_
      refine getfield (i := 34) (pc' := 66) dbo63 rfl Sb rfl ?_
      refine icmpF (pc' := 69) dbo66 (by decide : (-1 : Int32) < (1 : Int32)) rfl ?_
      refine iconst (pc' := 70) (v := (1 : Int32)) dbo69 rfl rfl ?_
      refine goto (pc' := 74) dbo70 (by decide) rfl ?_
      exact retI dbo74 rfl (Or.inl rfl) rfl (by decide) (by decide) ⟨by rw [ival1, ivalm, cmp_gt (by have p0 := un_pos hx; have p1 := un_pos hx'; rw [mv1, mv1]; omega)], rfl⟩
    · skip
      obtain ⟨Ea, Sa, -⟩ := id Ha
      obtain ⟨Eb, Sb, -⟩ := id Hb
      refine aloadN (pc' := 1) dbo0 rfl rfl rfl ?_
      refine getfield (i := 34) (pc' := 4) dbo1 rfl Sa rfl ?_
      refine aloadN (pc' := 5) dbo4 rfl rfl rfl ?_
      refine getfield (i := 34) (pc' := 8) dbo5 rfl Sb rfl ?_
      refine icmpT (pc' := 58) dbo8 (by decide : ¬ ((1 : Int32) = (-1 : Int32))) (by decide) rfl ?_
      refine aloadN (pc' := 59) dbo58 rfl rfl rfl ?_
      refine getfield (i := 34) (pc' := 62) dbo59 rfl Sa rfl ?_
      refine aloadN (pc' := 63) dbo62 rfl rfl rfl ?_
      refine getfield (i := 34) (pc' := 66) dbo63 rfl Sb rfl ?_
      refine icmpF (pc' := 69) dbo66 (by decide : (-1 : Int32) < (1 : Int32)) rfl ?_
      refine iconst (pc' := 70) (v := (1 : Int32)) dbo69 rfl rfl ?_
      refine goto (pc' := 74) dbo70 (by decide) rfl ?_
      exact retI dbo74 rfl (Or.inl rfl) rfl (by decide) (by decide) ⟨by rw [ival1, ivalm, cmp_gt (by have p0 := un_pos hx; have p1 := un_pos hx'; rw [mv1, mv2]; omega)], rfl⟩
  · skip
    rcases hk' with ⟨rfl, rfl⟩ | ⟨rfl | rfl, ⟨x', rfl, hx'⟩ | ⟨x', y', rfl, hx'⟩⟩
    · skip
      obtain ⟨Ea, Sa, -⟩ := id Ha
      obtain ⟨Eb, Sb, -⟩ := id Hb
      refine aloadN (pc' := 1) dbo0 rfl rfl rfl ?_
      refine getfield (i := 34) (pc' := 4) dbo1 rfl Sa rfl ?_
      refine aloadN (pc' := 5) dbo4 rfl rfl rfl ?_
      refine getfield (i := 34) (pc' := 8) dbo5 rfl Sb rfl ?_
      refine icmpT (pc' := 58) dbo8 (by decide : ¬ ((1 : Int32) = (0 : Int32))) (by decide) rfl ?_
      refine aloadN (pc' := 59) dbo58 rfl rfl rfl ?_
      refine getfield (i := 34) (pc' := 62) dbo59 rfl Sa rfl ?_
      refine aloadN (pc' := 63) dbo62 rfl rfl rfl ?_
      refine getfield (i := 34) (pc' := 66) dbo63 rfl Sb rfl ?_
      refine icmpF (pc' := 69) dbo66 (by decide : (0 : Int32) < (1 : Int32)) rfl ?_
      refine iconst (pc' := 70) (v := (1 : Int32)) dbo69 rfl rfl ?_
      refine goto (pc' := 74) dbo70 (by decide) rfl ?_
      exact retI dbo74 rfl (Or.inl rfl) rfl (by decide) (by decide) ⟨by rw [ival1, ival0, cmp_gt (by have p0 := un_pos hx; rw [mv2]; omega)], rfl⟩
    · skip
      obtain ⟨Ea, Sa, -⟩ := id Ha
      obtain ⟨Eb, Sb, -⟩ := id Hb
      refine aloadN (pc' := 1) dbo0 rfl rfl rfl ?_
      refine getfield (i := 34) (pc' := 4) dbo1 rfl Sa rfl ?_
      refine aloadN (pc' := 5) dbo4 rfl rfl rfl ?_
      refine getfield (i := 34) (pc' := 8) dbo5 rfl Sb rfl ?_
      refine icmpF (pc' := 11) dbo8 (rfl : (1 : Int32) = (1 : Int32)) rfl ?_
      refine aloadN (pc' := 12) dbo11 rfl rfl rfl ?_
      refine getfield (i := 34) (pc' := 15) dbo12 rfl Sa rfl ?_
      refine lswHit (a := 1) (off := 25) (pc' := 40) dbo15 (by decide) (by decide) (by decide) (by decide) ?_
      refine aloadN (pc' := 41) dbo40 rfl rfl rfl ?_
      refine aloadN (pc' := 42) dbo41 rfl rfl rfl ?_
      refine call (i := 222) (i2 := 8) (Wd := 0) (pc' := 45) (kVirt (i := 218) (i2 := 219) (i3 := 221) (i4 := 220) (C := "java/math/BigInteger") (a := a) (argsL := [(.ref b)]) (S' := []) (Wd := 0) dbo42 rfl rfl rfl rfl Ea (by decide) rfl pd_23 rfl rfl (Nat.le_of_ble_eq_true rfl)) (rm_cm21 l Z a0 hw hEL n0 a b _ _ x y x' _ Ha Hb hx hx') rfl rfl (by simp) (by decide) (by decide) (by decide) (by decide) rfl fun v_ h739 P740 sz741 => ?_
      obtain ⟨rfl, e742⟩ := P740
      rw [e742]
      refine at' (ce' := 0) (sl' := 0) (pc' := 45) (S' := [(.int (cmpI (mval [x, y] : Nat) (mval [x'] : Nat)))]) rfl rfl rfl rfl rfl ?_
      refine goto (pc' := 57) dbo45 (by decide) rfl ?_
      exact retI dbo57 rfl (Or.inl rfl) rfl (by decide) (by decide) ⟨by rw [ival1, ival1], rfl⟩
    · skip
      obtain ⟨Ea, Sa, -⟩ := id Ha
      obtain ⟨Eb, Sb, -⟩ := id Hb
      refine aloadN (pc' := 1) dbo0 rfl rfl rfl ?_
      refine getfield (i := 34) (pc' := 4) dbo1 rfl Sa rfl ?_
      refine aloadN (pc' := 5) dbo4 rfl rfl rfl ?_
      refine getfield (i := 34) (pc' := 8) dbo5 rfl Sb rfl ?_
      refine icmpF (pc' := 11) dbo8 (rfl : (1 : Int32) = (1 : Int32)) rfl ?_
      refine aloadN (pc' := 12) dbo11 rfl rfl rfl ?_
      refine getfield (i := 34) (pc' := 15) dbo12 rfl Sa rfl ?_
      refine lswHit (a := 1) (off := 25) (pc' := 40) dbo15 (by decide) (by decide) (by decide) (by decide) ?_
      refine aloadN (pc' := 41) dbo40 rfl rfl rfl ?_
      refine aloadN (pc' := 42) dbo41 rfl rfl rfl ?_
      refine call (i := 222) (i2 := 8) (Wd := 0) (pc' := 45) (kVirt (i := 218) (i2 := 219) (i3 := 221) (i4 := 220) (C := "java/math/BigInteger") (a := a) (argsL := [(.ref b)]) (S' := []) (Wd := 0) dbo42 rfl rfl rfl rfl Ea (by decide) rfl pd_23 rfl rfl (Nat.le_of_ble_eq_true rfl)) (rm_cm22 l Z a0 hw hEL n0 a b _ _ x y x' y' _ Ha Hb hx hx') rfl rfl (by simp) (by decide) (by decide) (by decide) (by decide) rfl fun v_ h743 P744 sz745 => ?_
      obtain ⟨rfl, e746⟩ := P744
      rw [e746]
      refine at' (ce' := 0) (sl' := 0) (pc' := 45) (S' := [(.int (cmpI (mval [x, y] : Nat) (mval [x', y'] : Nat)))]) rfl rfl rfl rfl rfl ?_
      refine goto (pc' := 57) dbo45 (by decide) rfl ?_
      exact retI dbo57 rfl (Or.inl rfl) rfl (by decide) (by decide) ⟨by rw [ival1, ival1], rfl⟩
    · skip
      obtain ⟨Ea, Sa, -⟩ := id Ha
      obtain ⟨Eb, Sb, -⟩ := id Hb
      refine aloadN (pc' := 1) dbo0 rfl rfl rfl ?_
      refine getfield (i := 34) (pc' := 4) dbo1 rfl Sa rfl ?_
      refine aloadN (pc' := 5) dbo4 rfl rfl rfl ?_
      refine getfield (i := 34) (pc' := 8) dbo5 rfl Sb rfl ?_
      refine icmpT (pc' := 58) dbo8 (by decide : ¬ ((1 : Int32) = (-1 : Int32))) (by decide) rfl ?_
      refine aloadN (pc' := 59) dbo58 rfl rfl rfl ?_
      refine getfield (i := 34) (pc' := 62) dbo59 rfl Sa rfl ?_
      refine aloadN (pc' := 63) dbo62 rfl rfl rfl ?_
      refine getfield (i := 34) (pc' := 66) dbo63 rfl Sb rfl ?_
      refine icmpF (pc' := 69) dbo66 (by decide : (-1 : Int32) < (1 : Int32)) rfl ?_
      refine iconst (pc' := 70) (v := (1 : Int32)) dbo69 rfl rfl ?_
      refine goto (pc' := 74) dbo70 (by decide) rfl ?_
      exact retI dbo74 rfl (Or.inl rfl) rfl (by decide) (by decide) ⟨by rw [ival1, ivalm, cmp_gt (by have p0 := un_pos hx; have p1 := un_pos hx'; rw [mv2, mv1]; omega)], rfl⟩
    · skip
      obtain ⟨Ea, Sa, -⟩ := id Ha
      obtain ⟨Eb, Sb, -⟩ := id Hb
      refine aloadN (pc' := 1) dbo0 rfl rfl rfl ?_
      refine getfield (i := 34) (pc' := 4) dbo1 rfl Sa rfl ?_
      refine aloadN (pc' := 5) dbo4 rfl rfl rfl ?_
      refine getfield (i := 34) (pc' := 8) dbo5 rfl Sb rfl ?_
      refine icmpT (pc' := 58) dbo8 (by decide : ¬ ((1 : Int32) = (-1 : Int32))) (by decide) rfl ?_
      refine aloadN (pc' := 59) dbo58 rfl rfl rfl ?_
      refine getfield (i := 34) (pc' := 62) dbo59 rfl Sa rfl ?_
      refine aloadN (pc' := 63) dbo62 rfl rfl rfl ?_
      refine getfield (i := 34) (pc' := 66) dbo63 rfl Sb rfl ?_
      refine icmpF (pc' := 69) dbo66 (by decide : (-1 : Int32) < (1 : Int32)) rfl ?_
      refine iconst (pc' := 70) (v := (1 : Int32)) dbo69 rfl rfl ?_
      refine goto (pc' := 74) dbo70 (by decide) rfl ?_
      exact retI dbo74 rfl (Or.inl rfl) rfl (by decide) (by decide) ⟨by rw [ival1, ivalm, cmp_gt (by have p0 := un_pos hx; have p1 := un_pos hx'; rw [mv2, mv2]; omega)], rfl⟩
  · skip
    rcases hk' with ⟨rfl, rfl⟩ | ⟨rfl | rfl, ⟨x', rfl, hx'⟩ | ⟨x', y', rfl, hx'⟩⟩
    · skip
      obtain ⟨Ea, Sa, -⟩ := id Ha
      obtain ⟨Eb, Sb, -⟩ := id Hb
      refine aloadN (pc' := 1) dbo0 rfl rfl rfl ?_
      refine getfield (i := 34) (pc' := 4) dbo1 rfl Sa rfl ?_
      refine aloadN (pc' := 5) dbo4 rfl rfl rfl ?_
      refine getfield (i := 34) (pc' := 8) dbo5 rfl Sb rfl ?_
      refine icmpT (pc' := 58) dbo8 (by decide : ¬ ((-1 : Int32) = (0 : Int32))) (by decide) rfl ?_
      refine aloadN (pc' := 59) dbo58 rfl rfl rfl ?_
      refine getfield (i := 34) (pc' := 62) dbo59 rfl Sa rfl ?_
      refine aloadN (pc' := 63) dbo62 rfl rfl rfl ?_
      refine getfield (i := 34) (pc' := 66) dbo63 rfl Sb rfl ?_
      refine icmpT (pc' := 73) dbo66 (by decide : ¬ ((0 : Int32) < (-1 : Int32))) (by decide) rfl ?_
      refine iconst (pc' := 74) (v := (-1 : Int32)) dbo73 rfl rfl ?_
      exact retI dbo74 rfl (Or.inl rfl) rfl (by decide) (by decide) ⟨by rw [ivalm, ival0, cmp_lt (by have p0 := un_pos hx; rw [mv1]; omega)], rfl⟩
    · skip
      obtain ⟨Ea, Sa, -⟩ := id Ha
      obtain ⟨Eb, Sb, -⟩ := id Hb
      refine aloadN (pc' := 1) dbo0 rfl rfl rfl ?_
      refine getfield (i := 34) (pc' := 4) dbo1 rfl Sa rfl ?_
      refine aloadN (pc' := 5) dbo4 rfl rfl rfl ?_
      refine getfield (i := 34) (pc' := 8) dbo5 rfl Sb rfl ?_
      refine icmpT (pc' := 58) dbo8 (by decide : ¬ ((-1 : Int32) = (1 : Int32))) (by decide) rfl ?_
      refine aloadN (pc' := 59) dbo58 rfl rfl rfl ?_
      refine getfield (i := 34) (pc' := 62) dbo59 rfl Sa rfl ?_
      refine aloadN (pc' := 63) dbo62 rfl rfl rfl ?_
      refine getfield (i := 34) (pc' := 66) dbo63 rfl Sb rfl ?_
      refine icmpT (pc' := 73) dbo66 (by decide : ¬ ((1 : Int32) < (-1 : Int32))) (by decide) rfl ?_
      refine iconst (pc' := 74) (v := (-1 : Int32)) dbo73 rfl rfl ?_
      exact retI dbo74 rfl (Or.inl rfl) rfl (by decide) (by decide) ⟨by rw [ivalm, ival1, cmp_lt (by have p0 := un_pos hx; have p1 := un_pos hx'; rw [mv1, mv1]; omega)], rfl⟩
    · skip
      obtain ⟨Ea, Sa, -⟩ := id Ha
      obtain ⟨Eb, Sb, -⟩ := id Hb
      refine aloadN (pc' := 1) dbo0 rfl rfl rfl ?_
      refine getfield (i := 34) (pc' := 4) dbo1 rfl Sa rfl ?_
      refine aloadN (pc' := 5) dbo4 rfl rfl rfl ?_
      refine getfield (i := 34) (pc' := 8) dbo5 rfl Sb rfl ?_
      refine icmpT (pc' := 58) dbo8 (by decide : ¬ ((-1 : Int32) = (1 : Int32))) (by decide) rfl ?_
      refine aloadN (pc' := 59) dbo58 rfl rfl rfl ?_
      refine getfield (i := 34) (pc' := 62) dbo59 rfl Sa rfl ?_
      refine aloadN (pc' := 63) dbo62 rfl rfl rfl ?_
      refine getfield (i := 34) (pc' := 66) dbo63 rfl Sb rfl ?_
      refine icmpT (pc' := 73) dbo66 (by decide : ¬ ((1 : Int32) < (-1 : Int32))) (by decide) rfl ?_
      refine iconst (pc' := 74) (v := (-1 : Int32)) dbo73 rfl rfl ?_
      exact retI dbo74 rfl (Or.inl rfl) rfl (by decide) (by decide) ⟨by rw [ivalm, ival1, cmp_lt (by have p0 := un_pos hx; have p1 := un_pos hx'; rw [mv1, mv2]; omega)], rfl⟩
    · skip
      obtain ⟨Ea, Sa, -⟩ := id Ha
      obtain ⟨Eb, Sb, -⟩ := id Hb
      refine aloadN (pc' := 1) dbo0 rfl rfl rfl ?_
      refine getfield (i := 34) (pc' := 4) dbo1 rfl Sa rfl ?_
      refine aloadN (pc' := 5) dbo4 rfl rfl rfl ?_
      refine getfield (i := 34) (pc' := 8) dbo5 rfl Sb rfl ?_
      refine icmpF (pc' := 11) dbo8 (rfl : (-1 : Int32) = (-1 : Int32)) rfl ?_
      refine aloadN (pc' := 12) dbo11 rfl rfl rfl ?_
      refine getfield (i := 34) (pc' := 15) dbo12 rfl Sa rfl ?_
      refine lswHit (a := -1) (off := 33) (pc' := 48) dbo15 (by decide) (by decide) (by decide) (by decide) ?_
      refine aloadN (pc' := 49) dbo48 rfl rfl rfl ?_
      refine aloadN (pc' := 50) dbo49 rfl rfl rfl ?_
      refine call (i := 222) (i2 := 8) (Wd := 0) (pc' := 53) (kVirt (i := 218) (i2 := 219) (i3 := 221) (i4 := 220) (C := "java/math/BigInteger") (a := b) (argsL := [(.ref a)]) (S' := []) (Wd := 0) dbo50 rfl rfl rfl rfl Eb (by decide) rfl pd_23 rfl rfl (Nat.le_of_ble_eq_true rfl)) (rm_cm11 l Z a0 hw hEL n0 b a _ _ x' x _ Hb Ha hx' hx) rfl rfl (by simp) (by decide) (by decide) (by decide) (by decide) rfl fun v_ h747 P748 sz749 => ?_
      obtain ⟨rfl, e750⟩ := P748
      rw [e750]
      refine at' (ce' := 0) (sl' := 0) (pc' := 53) (S' := [(.int (cmpI (mval [x'] : Nat) (mval [x] : Nat)))]) rfl rfl rfl rfl rfl ?_
      refine goto (pc' := 57) dbo53 (by decide) rfl ?_
      exact retI dbo57 rfl (Or.inl rfl) rfl (by decide) (by decide) ⟨by rw [ivalm, ivalm, cmp_neg], rfl⟩
    · skip
      obtain ⟨Ea, Sa, -⟩ := id Ha
      obtain ⟨Eb, Sb, -⟩ := id Hb
      refine aloadN (pc' := 1) dbo0 rfl rfl rfl ?_
      refine getfield (i := 34) (pc' := 4) dbo1 rfl Sa rfl ?_
      refine aloadN (pc' := 5) dbo4 rfl rfl rfl ?_
      refine getfield (i := 34) (pc' := 8) dbo5 rfl Sb rfl ?_
      refine icmpF (pc' := 11) dbo8 (rfl : (-1 : Int32) = (-1 : Int32)) rfl ?_
      refine aloadN (pc' := 12) dbo11 rfl rfl rfl ?_
      refine getfield (i := 34) (pc' := 15) dbo12 rfl Sa rfl ?_
      refine lswHit (a := -1) (off := 33) (pc' := 48) dbo15 (by decide) (by decide) (by decide) (by decide) ?_
      refine aloadN (pc' := 49) dbo48 rfl rfl rfl ?_
      refine aloadN (pc' := 50) dbo49 rfl rfl rfl ?_
      refine call (i := 222) (i2 := 8) (Wd := 0) (pc' := 53) (kVirt (i := 218) (i2 := 219) (i3 := 221) (i4 := 220) (C := "java/math/BigInteger") (a := b) (argsL := [(.ref a)]) (S' := []) (Wd := 0) dbo50 rfl rfl rfl rfl Eb (by decide) rfl pd_23 rfl rfl (Nat.le_of_ble_eq_true rfl)) (rm_cm21 l Z a0 hw hEL n0 b a _ _ x' y' x _ Hb Ha hx' hx) rfl rfl (by simp) (by decide) (by decide) (by decide) (by decide) rfl fun v_ h751 P752 sz753 => ?_
      obtain ⟨rfl, e754⟩ := P752
      rw [e754]
      refine at' (ce' := 0) (sl' := 0) (pc' := 53) (S' := [(.int (cmpI (mval [x', y'] : Nat) (mval [x] : Nat)))]) rfl rfl rfl rfl rfl ?_
      refine goto (pc' := 57) dbo53 (by decide) rfl ?_
      exact retI dbo57 rfl (Or.inl rfl) rfl (by decide) (by decide) ⟨by rw [ivalm, ivalm, cmp_neg], rfl⟩
  · skip
    rcases hk' with ⟨rfl, rfl⟩ | ⟨rfl | rfl, ⟨x', rfl, hx'⟩ | ⟨x', y', rfl, hx'⟩⟩
    · skip
      obtain ⟨Ea, Sa, -⟩ := id Ha
      obtain ⟨Eb, Sb, -⟩ := id Hb
      refine aloadN (pc' := 1) dbo0 rfl rfl rfl ?_
      refine getfield (i := 34) (pc' := 4) dbo1 rfl Sa rfl ?_
      refine aloadN (pc' := 5) dbo4 rfl rfl rfl ?_
      refine getfield (i := 34) (pc' := 8) dbo5 rfl Sb rfl ?_
      refine icmpT (pc' := 58) dbo8 (by decide : ¬ ((-1 : Int32) = (0 : Int32))) (by decide) rfl ?_
      refine aloadN (pc' := 59) dbo58 rfl rfl rfl ?_
      refine getfield (i := 34) (pc' := 62) dbo59 rfl Sa rfl ?_
      refine aloadN (pc' := 63) dbo62 rfl rfl rfl ?_
      refine getfield (i := 34) (pc' := 66) dbo63 rfl Sb rfl ?_
      refine icmpT (pc' := 73) dbo66 (by decide : ¬ ((0 : Int32) < (-1 : Int32))) (by decide) rfl ?_
      refine iconst (pc' := 74) (v := (-1 : Int32)) dbo73 rfl rfl ?_
      exact retI dbo74 rfl (Or.inl rfl) rfl (by decide) (by decide) ⟨by rw [ivalm, ival0, cmp_lt (by have p0 := un_pos hx; rw [mv2]; omega)], rfl⟩
    · skip
      obtain ⟨Ea, Sa, -⟩ := id Ha
      obtain ⟨Eb, Sb, -⟩ := id Hb
      refine aloadN (pc' := 1) dbo0 rfl rfl rfl ?_
      refine getfield (i := 34) (pc' := 4) dbo1 rfl Sa rfl ?_
      refine aloadN (pc' := 5) dbo4 rfl rfl rfl ?_
      refine getfield (i := 34) (pc' := 8) dbo5 rfl Sb rfl ?_
      refine icmpT (pc' := 58) dbo8 (by decide : ¬ ((-1 : Int32) = (1 : Int32))) (by decide) rfl ?_
      refine aloadN (pc' := 59) dbo58 rfl rfl rfl ?_
      refine getfield (i := 34) (pc' := 62) dbo59 rfl Sa rfl ?_
      refine aloadN (pc' := 63) dbo62 rfl rfl rfl ?_
      refine getfield (i := 34) (pc' := 66) dbo63 rfl Sb rfl ?_
      refine icmpT (pc' := 73) dbo66 (by decide : ¬ ((1 : Int32) < (-1 : Int32))) (by decide) rfl ?_
      refine iconst (pc' := 74) (v := (-1 : Int32)) dbo73 rfl rfl ?_
      exact retI dbo74 rfl (Or.inl rfl) rfl (by decide) (by decide) ⟨by rw [ivalm, ival1, cmp_lt (by have p0 := un_pos hx; have p1 := un_pos hx'; rw [mv2, mv1]; omega)], rfl⟩
    · skip
      obtain ⟨Ea, Sa, -⟩ := id Ha
      obtain ⟨Eb, Sb, -⟩ := id Hb
      refine aloadN (pc' := 1) dbo0 rfl rfl rfl ?_
      refine getfield (i := 34) (pc' := 4) dbo1 rfl Sa rfl ?_
      refine aloadN (pc' := 5) dbo4 rfl rfl rfl ?_
      refine getfield (i := 34) (pc' := 8) dbo5 rfl Sb rfl ?_
      refine icmpT (pc' := 58) dbo8 (by decide : ¬ ((-1 : Int32) = (1 : Int32))) (by decide) rfl ?_
      refine aloadN (pc' := 59) dbo58 rfl rfl rfl ?_
      refine getfield (i := 34) (pc' := 62) dbo59 rfl Sa rfl ?_
      refine aloadN (pc' := 63) dbo62 rfl rfl rfl ?_
      refine getfield (i := 34) (pc' := 66) dbo63 rfl Sb rfl ?_
      refine icmpT (pc' := 73) dbo66 (by decide : ¬ ((1 : Int32) < (-1 : Int32))) (by decide) rfl ?_
      refine iconst (pc' := 74) (v := (-1 : Int32)) dbo73 rfl rfl ?_
      exact retI dbo74 rfl (Or.inl rfl) rfl (by decide) (by decide) ⟨by rw [ivalm, ival1, cmp_lt (by have p0 := un_pos hx; have p1 := un_pos hx'; rw [mv2, mv2]; omega)], rfl⟩
    · skip
      obtain ⟨Ea, Sa, -⟩ := id Ha
      obtain ⟨Eb, Sb, -⟩ := id Hb
      refine aloadN (pc' := 1) dbo0 rfl rfl rfl ?_
      refine getfield (i := 34) (pc' := 4) dbo1 rfl Sa rfl ?_
      refine aloadN (pc' := 5) dbo4 rfl rfl rfl ?_
      refine getfield (i := 34) (pc' := 8) dbo5 rfl Sb rfl ?_
      refine icmpF (pc' := 11) dbo8 (rfl : (-1 : Int32) = (-1 : Int32)) rfl ?_
      refine aloadN (pc' := 12) dbo11 rfl rfl rfl ?_
      refine getfield (i := 34) (pc' := 15) dbo12 rfl Sa rfl ?_
      refine lswHit (a := -1) (off := 33) (pc' := 48) dbo15 (by decide) (by decide) (by decide) (by decide) ?_
      refine aloadN (pc' := 49) dbo48 rfl rfl rfl ?_
      refine aloadN (pc' := 50) dbo49 rfl rfl rfl ?_
      refine call (i := 222) (i2 := 8) (Wd := 0) (pc' := 53) (kVirt (i := 218) (i2 := 219) (i3 := 221) (i4 := 220) (C := "java/math/BigInteger") (a := b) (argsL := [(.ref a)]) (S' := []) (Wd := 0) dbo50 rfl rfl rfl rfl Eb (by decide) rfl pd_23 rfl rfl (Nat.le_of_ble_eq_true rfl)) (rm_cm12 l Z a0 hw hEL n0 b a _ _ x' x y _ Hb Ha hx' hx) rfl rfl (by simp) (by decide) (by decide) (by decide) (by decide) rfl fun v_ h755 P756 sz757 => ?_
      obtain ⟨rfl, e758⟩ := P756
      rw [e758]
      refine at' (ce' := 0) (sl' := 0) (pc' := 53) (S' := [(.int (cmpI (mval [x'] : Nat) (mval [x, y] : Nat)))]) rfl rfl rfl rfl rfl ?_
      refine goto (pc' := 57) dbo53 (by decide) rfl ?_
      exact retI dbo57 rfl (Or.inl rfl) rfl (by decide) (by decide) ⟨by rw [ivalm, ivalm, cmp_neg], rfl⟩
    · skip
      obtain ⟨Ea, Sa, -⟩ := id Ha
      obtain ⟨Eb, Sb, -⟩ := id Hb
      refine aloadN (pc' := 1) dbo0 rfl rfl rfl ?_
      refine getfield (i := 34) (pc' := 4) dbo1 rfl Sa rfl ?_
      refine aloadN (pc' := 5) dbo4 rfl rfl rfl ?_
      refine getfield (i := 34) (pc' := 8) dbo5 rfl Sb rfl ?_
      refine icmpF (pc' := 11) dbo8 (rfl : (-1 : Int32) = (-1 : Int32)) rfl ?_
      refine aloadN (pc' := 12) dbo11 rfl rfl rfl ?_
      refine getfield (i := 34) (pc' := 15) dbo12 rfl Sa rfl ?_
      refine lswHit (a := -1) (off := 33) (pc' := 48) dbo15 (by decide) (by decide) (by decide) (by decide) ?_
      refine aloadN (pc' := 49) dbo48 rfl rfl rfl ?_
      refine aloadN (pc' := 50) dbo49 rfl rfl rfl ?_
      refine call (i := 222) (i2 := 8) (Wd := 0) (pc' := 53) (kVirt (i := 218) (i2 := 219) (i3 := 221) (i4 := 220) (C := "java/math/BigInteger") (a := b) (argsL := [(.ref a)]) (S' := []) (Wd := 0) dbo50 rfl rfl rfl rfl Eb (by decide) rfl pd_23 rfl rfl (Nat.le_of_ble_eq_true rfl)) (rm_cm22 l Z a0 hw hEL n0 b a _ _ x' y' x y _ Hb Ha hx' hx) rfl rfl (by simp) (by decide) (by decide) (by decide) (by decide) rfl fun v_ h759 P760 sz761 => ?_
      obtain ⟨rfl, e762⟩ := P760
      rw [e762]
      refine at' (ce' := 0) (sl' := 0) (pc' := 53) (S' := [(.int (cmpI (mval [x', y'] : Nat) (mval [x, y] : Nat)))]) rfl rfl rfl rfl rfl ?_
      refine goto (pc' := 57) dbo53 (by decide) rfl ?_
      exact retI dbo57 rfl (Or.inl rfl) rfl (by decide) (by decide) ⟨by rw [ivalm, ivalm, cmp_neg], rfl⟩
set_option maxRecDepth 65536 in
set_option maxHeartbeats 40000000 in
theorem rm_req (l : Launch) (Z : State) (a0 : Array Value) (hw : ∀ d ∈ tables_1, d.before a0 Z = true) (hEL : EW Z a0 []) (n0 : Nat) (p q : Addr) (s s' : Int32) (ms ms' : List Int32) (h : Heap)  (Hp : RT Z h p s ms) (Hq : RT Z h q s' ms') (hk : Okm s ms) (hk' : Okm s' ms') :
    Met l true Z [] n0 (⟨"com/example/varuna/varuna/Rational", "equals", "(Ljava/lang/Object;)Z"⟩ : MethodName) prog_5_method_23_code 2 (some .boolean) ({ frames := 1, cells := 0, slots := 0, locals := 30 } : Room) [] #[(.ref p), (.ref q)] [] h (fun v h' => ∃ c : Int32, v = some (.int c) ∧ ((c = 1 ∧ s = s' ∧ ms = ms') ∨ (c = 0 ∧ ¬ (s = s' ∧ ms = ms'))) ∧ h' = h) := by
  refine Met.of_body (a0 := a0) (L0 := #[.val (.ref p), .val (.ref q)]) (plainFor_of_name (by first | (simp [plainName, overriddenIn]; done) | decide +kernel)) (fun m => by first | rfl | (simp [entryFrame, mkF, argsToLocals, Value.category]; done)) hw hEL (by decide) ?_
  obtain ⟨Ep, ap, bp, Np, Dp, Ap, Bp⟩ := id Hp
  obtain ⟨Eq, aq, bq, Nq, Dq, Aq, Bq⟩ := id Hq
  refine aloadN (pc' := 1) dbp0 rfl rfl rfl ?_
  refine instanceofY (i := 4) (pc' := 4) dbp1 rfl (Ins.self Eq) rfl ?_
  refine ifF (pc' := 7) dbp4 (by decide : ¬ ((1 : Int32) = (0 : Int32))) rfl ?_
  refine aloadN (pc' := 8) dbp7 rfl rfl rfl ?_
  refine getfield (i := 19) (pc' := 11) dbp8 rfl Np rfl ?_
  refine aloadN (pc' := 12) dbp11 rfl rfl rfl ?_
  refine checkcast (i := 4) (pc' := 15) dbp12 rfl (Ins.self Eq) rfl ?_
  refine getfield (i := 19) (pc' := 18) dbp15 rfl Nq rfl ?_
  refine call (i := 178) (i2 := 8) (Wd := 0) (pc' := 21) (kVirt (i := 174) (i2 := 175) (i3 := 177) (i4 := 176) (C := "java/math/BigInteger") (a := ap) (argsL := [(.ref aq)]) (S' := []) (Wd := 0) dbp18 rfl rfl rfl rfl (Ap.1) (by decide) rfl pd_24 rfl rfl (Nat.le_of_ble_eq_true rfl)) (rm_eq l Z a0 hw hEL n0 ap aq s s' ms ms' _ Ap Aq hk hk') rfl rfl (by simp) (by decide) (by decide) (by decide) (by decide) rfl fun v_ h763 P764 sz765 => ?_
  obtain ⟨c, rfl, hc, e766⟩ := P764
  rw [e766]
  rcases hc with ⟨rfl, hc⟩ | ⟨rfl, hc⟩
  · skip
    refine at' (ce' := 0) (sl' := 0) (pc' := 21) (S' := [(.int (1 : Int32))]) rfl rfl rfl rfl rfl ?_
    refine ifF (pc' := 24) dbp21 (by decide : ¬ ((1 : Int32) = (0 : Int32))) rfl ?_
    refine aloadN (pc' := 25) dbp24 rfl rfl rfl ?_
    refine getfield (i := 21) (pc' := 28) dbp25 rfl Dp rfl ?_
    refine aloadN (pc' := 29) dbp28 rfl rfl rfl ?_
    refine checkcast (i := 4) (pc' := 32) dbp29 rfl (Ins.self Eq) rfl ?_
    refine getfield (i := 21) (pc' := 35) dbp32 rfl Dq rfl ?_
    refine call (i := 178) (i2 := 8) (Wd := 0) (pc' := 38) (kVirt (i := 174) (i2 := 175) (i3 := 177) (i4 := 176) (C := "java/math/BigInteger") (a := bp) (argsL := [(.ref bq)]) (S' := []) (Wd := 0) dbp35 rfl rfl rfl rfl (Bp.1) (by decide) rfl pd_24 rfl rfl (Nat.le_of_ble_eq_true rfl)) (rm_eq l Z a0 hw hEL n0 bp bq 1 1 [1] [1] _ Bp Bq (Or.inr ⟨Or.inl rfl, Or.inl ⟨1, rfl, by decide⟩⟩) (Or.inr ⟨Or.inl rfl, Or.inl ⟨1, rfl, by decide⟩⟩)) rfl rfl (by simp) (by decide) (by decide) (by decide) (by decide) rfl fun v_ h767 P768 sz769 => ?_
    obtain ⟨d, rfl, hd, e770⟩ := P768
    rw [e770]
    obtain rfl : d = 1 := hd.elim (fun r => r.1) (fun r => absurd ⟨rfl, rfl⟩ r.2)
    refine at' (ce' := 0) (sl' := 0) (pc' := 38) (S' := [(.int (1 : Int32))]) rfl rfl rfl rfl rfl ?_
    refine ifF (pc' := 41) dbp38 (by decide : ¬ ((1 : Int32) = (0 : Int32))) rfl ?_
    refine iconst (pc' := 42) (v := (1 : Int32)) dbp41 rfl rfl ?_
    refine goto (pc' := 46) dbp42 (by decide) rfl ?_
    exact retI dbp46 rfl (Or.inr (Or.inl rfl)) rfl (by decide) (by decide) ⟨_, rfl, Or.inl ⟨rfl, hc⟩, rfl⟩
  · skip
    refine at' (ce' := 0) (sl' := 0) (pc' := 21) (S' := [(.int (0 : Int32))]) rfl rfl rfl rfl rfl ?_
    refine ifT (pc' := 45) dbp21 (rfl : (0 : Int32) = (0 : Int32)) (by decide) rfl ?_
    refine iconst (pc' := 46) (v := (0 : Int32)) dbp45 rfl rfl ?_
    exact retI dbp46 rfl (Or.inr (Or.inl rfl)) rfl (by decide) (by decide) ⟨_, rfl, Or.inr ⟨rfl, hc⟩, rfl⟩
theorem rm_mul (l : Launch) (Z : State) (a0 : Array Value) (hw : ∀ d ∈ tables_1, d.before a0 Z = true) (hEL : EW Z a0 []) (n0 : Nat) (a b : Addr) (s : Int32) (ms : List Int32) (h : Heap)  (hC : Caches Z) (Ha : BI Z h a s ms) (Hb : BI Z h b 1 [1]) (hk : Okm s ms) :
    Met l true Z [] n0 (⟨"java/math/BigInteger", "multiply", "(Ljava/math/BigInteger;)Ljava/math/BigInteger;"⟩ : MethodName) jdk_2097_method_40_code 2 (some (.object "java/math/BigInteger")) ({ frames := 5, cells := 2, slots := 8, locals := 140 } : Room) [] #[(.ref a), (.ref b)] [] h (fun v h' => ∃ g : Addr, v = some (.ref g) ∧ Ext h h' ∧ BI Z h' g s ms) := by
  rcases hk with ⟨rfl, rfl⟩ | ⟨hs, ⟨x, rfl, hx⟩ | ⟨x, y, rfl, hx⟩⟩
  · exact rm_mul0 l Z a0 hw hEL n0 a b 0 _ hC Ha Hb
  · exact rm_mul1 l Z a0 hw hEL n0 a b s x _ hC Ha Hb hs
  · exact rm_mul2 l Z a0 hw hEL n0 a b s x y _ hC Ha Hb hs
set_option maxRecDepth 65536 in
set_option maxHeartbeats 40000000 in
theorem rm_rct (l : Launch) (Z : State) (a0 : Array Value) (hw : ∀ d ∈ tables_1, d.before a0 Z = true) (hEL : EW Z a0 []) (n0 : Nat) (p q : Addr) (s s' : Int32) (ms ms' : List Int32) (h : Heap)  (hC : Caches Z) (Hp : RT Z h p s ms) (Hq : RT Z h q s' ms') (hk : Okm s ms) (hk' : Okm s' ms') :
    Met l true Z [] n0 (⟨"com/example/varuna/varuna/Rational", "compareTo", "(Lcom/example/varuna/varuna/Rational;)I"⟩ : MethodName) prog_5_method_22_code 2 (some .int) ({ frames := 6, cells := 4, slots := 16, locals := 160 } : Room) [] #[(.ref p), (.ref q)] [] h (fun v h' => v = some (.int (cmpI (ival s ms) (ival s' ms'))) ∧ Ext h h') := by
  refine Met.of_body (a0 := a0) (L0 := #[.val (.ref p), .val (.ref q)]) (plainFor_of_name (by first | (simp [plainName, overriddenIn]; done) | decide +kernel)) (fun m => by first | rfl | (simp [entryFrame, mkF, argsToLocals, Value.category]; done)) hw hEL (by decide) ?_
  have K : Keep h h [] := Keep.refl _ _
  obtain ⟨Ep, ap, bp, Np, Dp, Ap, Bp⟩ := id Hp
  obtain ⟨Eq, aq, bq, Nq, Dq, Aq, Bq⟩ := id Hq
  refine aloadN (pc' := 1) dbq0 rfl rfl rfl ?_
  refine getfield (i := 19) (pc' := 4) dbq1 rfl Np rfl ?_
  refine aloadN (pc' := 5) dbq4 rfl rfl rfl ?_
  refine getfield (i := 21) (pc' := 8) dbq5 rfl Dq rfl ?_
  refine call (i := 189) (i2 := 8) (Wd := 0) (pc' := 11) (kVirt (i := 185) (i2 := 186) (i3 := 188) (i4 := 187) (C := "java/math/BigInteger") (a := ap) (argsL := [(.ref bq)]) (S' := []) (Wd := 0) dbq8 rfl rfl rfl rfl (Ap.1) (by decide) rfl pd_16 rfl rfl (Nat.le_of_ble_eq_true rfl)) (rm_mul l Z a0 hw hEL n0 ap bq s ms _ hC Ap Bq hk) rfl rfl (by simp) (by decide) (by decide) (by decide) (by decide) rfl fun v_ h771 P772 sz773 => ?_
  obtain ⟨g1, rfl, X1, G1⟩ := P772
  replace K := K.ext X1
  replace Ep := Ep.ext X1
  replace Np := Np.ext X1
  replace Dp := Dp.ext X1
  replace Eq := Eq.ext X1
  replace Nq := Nq.ext X1
  replace Dq := Dq.ext X1
  replace Ap := Ap.ext X1
  replace Bp := Bp.ext X1
  replace Aq := Aq.ext X1
  replace Bq := Bq.ext X1
  refine at' (ce' := 2) (sl' := 8) (pc' := 11) (S' := [(.ref g1)]) rfl rfl rfl rfl rfl ?_
  refine aloadN (pc' := 12) dbq11 rfl rfl rfl ?_
  refine getfield (i := 19) (pc' := 15) dbq12 rfl Nq rfl ?_
  refine aloadN (pc' := 16) dbq15 rfl rfl rfl ?_
  refine getfield (i := 21) (pc' := 19) dbq16 rfl Dp rfl ?_
  refine call (i := 189) (i2 := 8) (Wd := 1) (pc' := 22) (kVirt (i := 185) (i2 := 186) (i3 := 188) (i4 := 187) (C := "java/math/BigInteger") (a := aq) (argsL := [(.ref bp)]) (S' := [(.ref g1)]) (Wd := 1) dbq19 rfl rfl rfl rfl (Aq.1) (by decide) rfl pd_16 rfl rfl (Nat.le_of_ble_eq_true rfl)) (rm_mul l Z a0 hw hEL n0 aq bp s' ms' _ hC Aq Bp hk') rfl rfl (by simp) (by decide) (by decide) (by decide) (by decide) rfl fun v_ h774 P775 sz776 => ?_
  obtain ⟨g2, rfl, X2, G2⟩ := P775
  replace K := K.ext X2
  replace Ep := Ep.ext X2
  replace Np := Np.ext X2
  replace Dp := Dp.ext X2
  replace Eq := Eq.ext X2
  replace Nq := Nq.ext X2
  replace Dq := Dq.ext X2
  replace Ap := Ap.ext X2
  replace Bp := Bp.ext X2
  replace Aq := Aq.ext X2
  replace Bq := Bq.ext X2
  replace G1 := G1.ext X2
  refine at' (ce' := 4) (sl' := 16) (pc' := 22) (S' := [(.ref g2), (.ref g1)]) rfl rfl rfl rfl rfl ?_
  refine call (i := 217) (i2 := 8) (Wd := 0) (pc' := 25) (kVirt (i := 213) (i2 := 214) (i3 := 216) (i4 := 215) (C := "java/math/BigInteger") (a := g1) (argsL := [(.ref g2)]) (S' := []) (Wd := 0) dbq22 rfl rfl rfl rfl (G1.1) (by decide) rfl pd_23 rfl rfl (Nat.le_of_ble_eq_true rfl)) (rm_ct l Z a0 hw hEL n0 g1 g2 s s' ms ms' _ G1 G2 hk hk') rfl rfl (by simp) (by decide) (by decide) (by decide) (by decide) rfl fun v_ h777 P778 sz779 => ?_
  obtain ⟨rfl, e780⟩ := P778
  rw [e780]
  refine at' (ce' := 4) (sl' := 16) (pc' := 25) (S' := [(.int (cmpI (ival s ms) (ival s' ms')))]) rfl rfl rfl rfl rfl ?_
  exact retI dbq25 rfl (Or.inl rfl) rfl (by decide) (by decide) ⟨rfl, keepExt K⟩
set_option maxRecDepth 65536 in
set_option maxHeartbeats 40000000 in
theorem rm_rsg (l : Launch) (Z : State) (a0 : Array Value) (hw : ∀ d ∈ tables_1, d.before a0 Z = true) (hEL : EW Z a0 []) (n0 : Nat) (p : Addr) (s : Int32) (ms : List Int32) (h : Heap)  (Hp : RT Z h p s ms) :
    Met l true Z [] n0 (⟨"com/example/varuna/varuna/Rational", "signum", "()I"⟩ : MethodName) prog_5_method_11_code 1 (some .int) ({ frames := 1, cells := 0, slots := 0, locals := 20 } : Room) [] #[(.ref p)] [] h (fun v h' => v = some (.int s) ∧ h' = h) := by
  refine Met.of_body (a0 := a0) (L0 := #[.val (.ref p)]) (plainFor_of_name (by first | (simp [plainName, overriddenIn]; done) | decide +kernel)) (fun m => by first | rfl | (simp [entryFrame, mkF, argsToLocals, Value.category]; done)) hw hEL (by decide) ?_
  obtain ⟨Ep, ap, bp, Np, Dp, Ap, Bp⟩ := id Hp
  refine aloadN (pc' := 1) dbr0 rfl rfl rfl ?_
  refine getfield (i := 19) (pc' := 4) dbr1 rfl Np rfl ?_
  refine call (i := 33) (i2 := 8) (Wd := 0) (pc' := 7) (kVirt (i := 29) (i2 := 30) (i3 := 32) (i4 := 31) (C := "java/math/BigInteger") (a := ap) (argsL := []) (S' := []) (Wd := 0) dbr4 rfl rfl rfl rfl (Ap.1) (by decide) rfl pd_6 rfl rfl (Nat.le_of_ble_eq_true rfl)) (rm_sig l Z a0 hw hEL n0 ap s _ Ap.2.1) rfl rfl (by simp) (by decide) (by decide) (by decide) (by decide) rfl fun v_ h781 P782 sz783 => ?_
  obtain ⟨rfl, e784⟩ := P782
  rw [e784]
  refine at' (ce' := 0) (sl' := 0) (pc' := 7) (S' := [(.int s)]) rfl rfl rfl rfl rfl ?_
  exact retI dbr7 rfl (Or.inl rfl) rfl (by decide) (by decide) ⟨rfl, rfl⟩
theorem own_c1 {a b : Int} (h : cmpI a b < 0) : cmpI a b = -1 := by
  unfold cmpI at h ⊢
  split at h
  · rw [if_pos (by assumption)]
  · split at h <;> exact absurd h (by decide)
theorem own_c3 {a b : Int} (h : ¬ cmpI a b < 0) (h2 : ¬ cmpI a b = 0) : cmpI a b = 1 := by
  unfold cmpI at h h2 ⊢
  split at h
  · exact absurd (by decide) h
  · rename_i q
    rw [if_neg q] at h2 ⊢
    split at h2
    · exact absurd rfl h2
    · rename_i q2; rw [if_neg q2]
set_option maxRecDepth 65536 in
set_option maxHeartbeats 40000000 in
theorem law_met (l : Launch) (Z : State) (a0 : Array Value) (hw : ∀ d ∈ tables_1, d.before a0 Z = true) (hEL : EW Z a0 []) (n0 : Nat) (n k : Int64) (h : Heap)  (hC : Caches Z) :
    Met l true Z [] n0 x code maxLocals ret room_1 tables_1 #[(.long n), (.long k)] [] h (fun v h' => v = some (.int 1)) := by
  refine Met.of_body (a0 := a0) (L0 := #[.val (.long n), .second, .val (.long k), .second, .unset, .unset, .unset, .unset, .unset, .unset, .unset, .unset, .unset]) (plainFor_of_name (by first | (simp [plainName, overriddenIn]; done) | decide +kernel)) (fun m => by first | (simp [entryFrame, mkF, argsToLocals, Value.category, maxLocals]; done) | rfl) hw hEL (by decide) ?_
  refine lloadN (pc' := 1) at_0 rfl rfl ?_
  refine call (i := 3) (i2 := 2) (Wd := 0) (pc' := 4) (kStatic (i := 0) (i2 := 1) (i3 := 2) (i4 := 3) (argsL := [(.long n)]) (S' := []) (Wd := 0) at_1 rfl rfl rfl rfl (by decide) rfl pd_25 rfl rfl (Nat.le_of_ble_eq_true rfl)) (rm_oJ l Z a0 hw hEL n0 n _ hC) rfl rfl (by simp) (by decide) (by decide) (by decide) (by decide) rfl fun v_ h785 P786 sz787 => ?_
  obtain ⟨p, rfl, X1, P1⟩ := P786
  refine at' (ce' := 3) (sl' := 10) (pc' := 4) (S' := [(.ref p)]) rfl rfl rfl rfl rfl ?_
  refine astore (pc' := 6) (L' := #[.val (.long n), .second, .val (.long k), .second, .val (.ref p), .unset, .unset, .unset, .unset, .unset, .unset, .unset, .unset]) at_4 rfl rfl rfl ?_
  refine lloadN (pc' := 7) at_6 rfl rfl ?_
  refine call (i := 3) (i2 := 2) (Wd := 0) (pc' := 10) (kStatic (i := 0) (i2 := 1) (i3 := 2) (i4 := 3) (argsL := [(.long k)]) (S' := []) (Wd := 0) at_7 rfl rfl rfl rfl (by decide) rfl pd_25 rfl rfl (Nat.le_of_ble_eq_true rfl)) (rm_oJ l Z a0 hw hEL n0 k _ hC) rfl rfl (by simp) (by decide) (by decide) (by decide) (by decide) rfl fun v_ h788 P789 sz790 => ?_
  obtain ⟨q, rfl, X2, P2⟩ := P789
  replace P1 := P1.ext X2
  refine at' (ce' := 6) (sl' := 20) (pc' := 10) (S' := [(.ref q)]) rfl rfl rfl rfl rfl ?_
  refine astore (pc' := 12) (L' := #[.val (.long n), .second, .val (.long k), .second, .val (.ref p), .val (.ref q), .unset, .unset, .unset, .unset, .unset, .unset, .unset]) at_10 rfl rfl rfl ?_
  refine lloadN (pc' := 13) at_12 rfl rfl ?_
  refine lconst (pc' := 14) (v := (1 : Int64)) at_13 rfl rfl ?_
  refine call (i := 25) (i2 := 2) (Wd := 0) (pc' := 17) (kStatic (i := 23) (i2 := 24) (i3 := 2) (i4 := 25) (argsL := [(.long n), (.long (1 : Int64))]) (S' := []) (Wd := 0) at_14 rfl rfl rfl rfl (by decide) rfl pd_26 rfl rfl (Nat.le_of_ble_eq_true rfl)) (rm_oJJ l Z a0 hw hEL n0 n _ hC) rfl rfl (by simp) (by decide) (by decide) (by decide) (by decide) rfl fun v_ h791 P792 sz793 => ?_
  obtain ⟨r, rfl, X3, P3⟩ := P792
  replace P1 := P1.ext X3
  replace P2 := P2.ext X3
  refine at' (ce' := 32) (sl' := 98) (pc' := 17) (S' := [(.ref r)]) rfl rfl rfl rfl rfl ?_
  refine astore (pc' := 19) (L' := #[.val (.long n), .second, .val (.long k), .second, .val (.ref p), .val (.ref q), .val (.ref r), .unset, .unset, .unset, .unset, .unset, .unset]) at_17 rfl rfl rfl ?_
  refine aload (pc' := 21) at_19 rfl rfl rfl ?_
  refine aload (pc' := 23) at_21 rfl rfl rfl ?_
  have kn := ok_of n
  have kk := ok_of k
  refine call (i := 172) (i2 := 2) (Wd := 0) (pc' := 26) (kVirt (i := 168) (i2 := 169) (i3 := 171) (i4 := 170) (C := "com/example/varuna/varuna/Rational") (a := p) (argsL := [(.ref r)]) (S' := []) (Wd := 0) at_23 rfl rfl rfl rfl (P1.1) (by decide) rfl pd_24 rfl rfl (Nat.le_of_ble_eq_true rfl)) (rm_req l Z a0 hw hEL n0 p r _ _ _ _ _ P1 P3 kn kn) rfl rfl (by simp) (by decide) (by decide) (by decide) (by decide) rfl fun v_ h794 P795 sz796 => ?_
  obtain ⟨c, rfl, hc, e797⟩ := P795
  rw [e797]
  obtain rfl : c = 1 := hc.elim (fun r => r.1) (fun r => absurd ⟨rfl, rfl⟩ r.2)
  refine at' (ce' := 32) (sl' := 98) (pc' := 26) (S' := [(.int (1 : Int32))]) rfl rfl rfl rfl rfl ?_
  refine istore (pc' := 28) (L' := #[.val (.long n), .second, .val (.long k), .second, .val (.ref p), .val (.ref q), .val (.ref r), .val (.int (1 : Int32)), .unset, .unset, .unset, .unset, .unset]) at_26 rfl rfl ?_
  refine lloadN (pc' := 29) at_28 rfl rfl ?_
  refine lconst (pc' := 30) (v := (0 : Int64)) at_29 rfl rfl ?_
  refine lcmp (pc' := 31) at_30 rfl ?_
  have J49 : ∀ c : Int32, c = sgn n → Wq l true Z [] a0 n0 x code maxLocals ret room_1 h (fun v h' => v = some (.int 1)) [] h791 32 98 49 #[.val (.long n), .second, .val (.long k), .second, .val (.ref p), .val (.ref q), .val (.ref r), .val (.int (1 : Int32)), .unset, .unset, .unset, .unset, .unset] [(.int c)] := by
    intro c hcc
    subst hcc
    refine istore (pc' := 51) (L' := #[.val (.long n), .second, .val (.long k), .second, .val (.ref p), .val (.ref q), .val (.ref r), .val (.int (1 : Int32)), .val (.int (sgn n)), .unset, .unset, .unset, .unset]) at_49 rfl rfl ?_
    refine aload (pc' := 53) at_51 rfl rfl rfl ?_
    refine aload (pc' := 55) at_53 rfl rfl rfl ?_
    refine call (i := 184) (i2 := 2) (Wd := 0) (pc' := 58) (kVirt (i := 180) (i2 := 181) (i3 := 183) (i4 := 182) (C := "com/example/varuna/varuna/Rational") (a := p) (argsL := [(.ref q)]) (S' := []) (Wd := 0) at_55 rfl rfl rfl rfl (P1.1) (by decide) rfl pd_27 rfl rfl (Nat.le_of_ble_eq_true rfl)) (rm_rct l Z a0 hw hEL n0 p q _ _ _ _ _ hC P1 P2 kn kk) rfl rfl (by simp) (by decide) (by decide) (by decide) (by decide) rfl fun v_ h798 P799 sz800 => ?_
    obtain ⟨rfl, X4⟩ := P799
    replace P1 := P1.ext X4
    replace P2 := P2.ext X4
    replace P3 := P3.ext X4
    rw [ival_of, ival_of]
    refine at' (ce' := 36) (sl' := 114) (pc' := 58) (S' := [(.int (cmpI n.toInt k.toInt))]) rfl rfl rfl rfl rfl ?_
    refine istore (pc' := 60) (L' := #[.val (.long n), .second, .val (.long k), .second, .val (.ref p), .val (.ref q), .val (.ref r), .val (.int (1 : Int32)), .val (.int (sgn n)), .val (.int (cmpI n.toInt k.toInt)), .unset, .unset, .unset]) at_58 rfl rfl ?_
    refine iload (pc' := 62) at_60 rfl rfl ?_
    have J79 : ∀ c : Int32, c = (cmpI n.toInt k.toInt) → Wq l true Z [] a0 n0 x code maxLocals ret room_1 h (fun v h' => v = some (.int 1)) [] h798 36 114 79 #[.val (.long n), .second, .val (.long k), .second, .val (.ref p), .val (.ref q), .val (.ref r), .val (.int (1 : Int32)), .val (.int (sgn n)), .val (.int (cmpI n.toInt k.toInt)), .unset, .unset, .unset] [(.int c)] := by
      intro c hcc
      subst hcc
      refine istore (pc' := 81) (L' := #[.val (.long n), .second, .val (.long k), .second, .val (.ref p), .val (.ref q), .val (.ref r), .val (.int (1 : Int32)), .val (.int (sgn n)), .val (.int (cmpI n.toInt k.toInt)), .val (.int (cmpI n.toInt k.toInt)), .unset, .unset]) at_79 rfl rfl ?_
      refine lloadN (pc' := 82) at_81 rfl rfl ?_
      refine lloadN (pc' := 83) at_82 rfl rfl ?_
      refine lcmp (pc' := 84) at_83 rfl ?_
      have J102 : ∀ c : Int32, c = (cmpI n.toInt k.toInt) → Wq l true Z [] a0 n0 x code maxLocals ret room_1 h (fun v h' => v = some (.int 1)) [] h798 36 114 102 #[.val (.long n), .second, .val (.long k), .second, .val (.ref p), .val (.ref q), .val (.ref r), .val (.int (1 : Int32)), .val (.int (sgn n)), .val (.int (cmpI n.toInt k.toInt)), .val (.int (cmpI n.toInt k.toInt)), .unset, .unset] [(.int c)] := by
        intro c hcc
        subst hcc
        refine istore (pc' := 104) (L' := #[.val (.long n), .second, .val (.long k), .second, .val (.ref p), .val (.ref q), .val (.ref r), .val (.int (1 : Int32)), .val (.int (sgn n)), .val (.int (cmpI n.toInt k.toInt)), .val (.int (cmpI n.toInt k.toInt)), .val (.int (cmpI n.toInt k.toInt)), .unset]) at_102 rfl rfl ?_
        refine aload (pc' := 106) at_104 rfl rfl rfl ?_
        refine aload (pc' := 108) at_106 rfl rfl rfl ?_
        refine call (i := 172) (i2 := 2) (Wd := 0) (pc' := 111) (kVirt (i := 168) (i2 := 169) (i3 := 171) (i4 := 170) (C := "com/example/varuna/varuna/Rational") (a := p) (argsL := [(.ref q)]) (S' := []) (Wd := 0) at_108 rfl rfl rfl rfl (P1.1) (by decide) rfl pd_24 rfl rfl (Nat.le_of_ble_eq_true rfl)) (rm_req l Z a0 hw hEL n0 p q _ _ _ _ _ P1 P2 kn kk) rfl rfl (by simp) (by decide) (by decide) (by decide) (by decide) rfl fun v_ h801 P802 sz803 => ?_
        obtain ⟨c2, rfl, hc2, e804⟩ := P802
        rw [e804]
        refine at' (ce' := 36) (sl' := 114) (pc' := 111) (S' := [(.int c2)]) rfl rfl rfl rfl rfl ?_
        refine istore (pc' := 113) (L' := #[.val (.long n), .second, .val (.long k), .second, .val (.ref p), .val (.ref q), .val (.ref r), .val (.int (1 : Int32)), .val (.int (sgn n)), .val (.int (cmpI n.toInt k.toInt)), .val (.int (cmpI n.toInt k.toInt)), .val (.int (cmpI n.toInt k.toInt)), .val (.int c2)]) at_111 rfl rfl ?_
        refine iload (pc' := 115) at_113 rfl rfl ?_
        refine ifF (pc' := 118) at_115 (by decide : ¬ ((1 : Int32) = (0 : Int32))) rfl ?_
        refine aload (pc' := 120) at_118 rfl rfl rfl ?_
        refine call (i := 228) (i2 := 2) (Wd := 0) (pc' := 123) (kVirt (i := 224) (i2 := 225) (i3 := 227) (i4 := 226) (C := "com/example/varuna/varuna/Rational") (a := p) (argsL := []) (S' := []) (Wd := 0) at_120 rfl rfl rfl rfl (P1.1) (by decide) rfl pd_6 rfl rfl (Nat.le_of_ble_eq_true rfl)) (rm_rsg l Z a0 hw hEL n0 p _ _ _ P1) rfl rfl (by simp) (by decide) (by decide) (by decide) (by decide) rfl fun v_ h805 P806 sz807 => ?_
        obtain ⟨rfl, e808⟩ := P806
        rw [e808]
        refine at' (ce' := 36) (sl' := 114) (pc' := 123) (S' := [(.int (sgn n))]) rfl rfl rfl rfl rfl ?_
        refine iload (pc' := 125) at_123 rfl rfl ?_
        refine icmpF (pc' := 128) at_125 (rfl : (sgn n) = (sgn n)) rfl ?_
        refine iload (pc' := 130) at_128 rfl rfl ?_
        refine iload (pc' := 132) at_130 rfl rfl ?_
        refine icmpF (pc' := 135) at_132 (rfl : (cmpI n.toInt k.toInt) = (cmpI n.toInt k.toInt)) rfl ?_
        refine iload (pc' := 137) at_135 rfl rfl ?_
        refine lloadN (pc' := 138) at_137 rfl rfl ?_
        refine lloadN (pc' := 139) at_138 rfl rfl ?_
        refine lcmp (pc' := 140) at_139 rfl ?_
        refine ifc (pc' := 147) (pcF := 143) at_140 (by decide) rfl rfl (fun (g0 : ¬ ((lcmpW n k) = (0 : Int32))) => ?_) (fun (g0 : (lcmpW n k) = (0 : Int32)) => ?_)
        · skip
          obtain rfl : c2 = 0 := hc2.elim (fun r => absurd (by rw [lw_eq]; exact Int64.toInt_inj.mp (by rw [← ival_of n, ← ival_of k, r.2.1, r.2.2])) g0) (fun r => r.1)
          refine at' (ce' := 36) (sl' := 114) (pc' := 147) (S' := [(.int (0 : Int32))]) rfl rfl rfl rfl rfl ?_
          refine iconst (pc' := 148) (v := (0 : Int32)) at_147 rfl rfl ?_
          refine icmpF (pc' := 151) at_148 (rfl : (0 : Int32) = (0 : Int32)) rfl ?_
          refine iconst (pc' := 152) (v := (1 : Int32)) at_151 rfl rfl ?_
          refine goto (pc' := 156) at_152 (by decide) rfl ?_
          exact retI at_156 rfl (Or.inr (Or.inl rfl)) rfl (by decide) (by decide) rfl
        · skip
          obtain rfl : n = k := (lw_eq n k).mp g0
          obtain rfl : c2 = 1 := hc2.elim (fun r => r.1) (fun r => absurd ⟨rfl, rfl⟩ r.2)
          refine at' (ce' := 36) (sl' := 114) (pc' := 143) (S' := [(.int (1 : Int32))]) rfl rfl rfl rfl rfl ?_
          refine iconst (pc' := 144) (v := (1 : Int32)) at_143 rfl rfl ?_
          refine goto (pc' := 148) at_144 (by decide) rfl ?_
          refine icmpF (pc' := 151) at_148 (rfl : (1 : Int32) = (1 : Int32)) rfl ?_
          refine iconst (pc' := 152) (v := (1 : Int32)) at_151 rfl rfl ?_
          refine goto (pc' := 156) at_152 (by decide) rfl ?_
          exact retI at_156 rfl (Or.inr (Or.inl rfl)) rfl (by decide) (by decide) rfl
      refine ifc (pc' := 91) (pcF := 87) at_84 (by decide) rfl rfl (fun (g1 : ¬ ((lcmpW n k) < (0 : Int32))) => ?_) (fun (g1 : (lcmpW n k) < (0 : Int32)) => ?_)
      · skip
        refine lloadN (pc' := 92) at_91 rfl rfl ?_
        refine lloadN (pc' := 93) at_92 rfl rfl ?_
        refine lcmp (pc' := 94) at_93 rfl ?_
        refine ifc (pc' := 101) (pcF := 97) at_94 (by decide) rfl rfl (fun (g2 : ¬ ((lcmpW n k) = (0 : Int32))) => ?_) (fun (g2 : (lcmpW n k) = (0 : Int32)) => ?_)
        · skip
          refine iconst (pc' := 102) (v := (1 : Int32)) at_101 rfl rfl ?_
          exact J102 _ (cmp_gt (by have a1 := mt (lw_lt n k).mpr g1; have a2 := mt (lw_eq n k).mpr g2; rw [Int64.lt_iff_toInt_lt] at a1; have a3 : n.toInt ≠ k.toInt := fun e => a2 (Int64.toInt_inj.mp e); omega)).symm
        · skip
          refine iconst (pc' := 98) (v := (0 : Int32)) at_97 rfl rfl ?_
          refine goto (pc' := 102) at_98 (by decide) rfl ?_
          exact J102 _ (cmp_eq (congrArg Int64.toInt ((lw_eq n k).mp g2))).symm
      · skip
        refine iconst (pc' := 88) (v := (-1 : Int32)) at_87 rfl rfl ?_
        refine goto (pc' := 102) at_88 (by decide) rfl ?_
        exact J102 _ (cmp_lt (Int64.lt_iff_toInt_lt.mp ((lw_lt n k).mp g1))).symm
    refine ifc (pc' := 69) (pcF := 65) at_62 (by decide) rfl rfl (fun (g1 : ¬ ((cmpI n.toInt k.toInt) < (0 : Int32))) => ?_) (fun (g1 : (cmpI n.toInt k.toInt) < (0 : Int32)) => ?_)
    · skip
      refine iload (pc' := 71) at_69 rfl rfl ?_
      refine ifc (pc' := 78) (pcF := 74) at_71 (by decide) rfl rfl (fun (g2 : ¬ ((cmpI n.toInt k.toInt) = (0 : Int32))) => ?_) (fun (g2 : (cmpI n.toInt k.toInt) = (0 : Int32)) => ?_)
      · skip
        refine iconst (pc' := 79) (v := (1 : Int32)) at_78 rfl rfl ?_
        exact J79 _ (own_c3 g1 g2).symm
      · skip
        refine iconst (pc' := 75) (v := (0 : Int32)) at_74 rfl rfl ?_
        refine goto (pc' := 79) at_75 (by decide) rfl ?_
        exact J79 _ (g2).symm
    · skip
      refine iconst (pc' := 66) (v := (-1 : Int32)) at_65 rfl rfl ?_
      refine goto (pc' := 79) at_66 (by decide) rfl ?_
      exact J79 _ (own_c1 g1).symm
  refine ifc (pc' := 38) (pcF := 34) at_31 (by decide) rfl rfl (fun (g1 : ¬ ((lcmpW n (0 : Int64)) < (0 : Int32))) => ?_) (fun (g1 : (lcmpW n (0 : Int64)) < (0 : Int32)) => ?_)
  · skip
    refine lloadN (pc' := 39) at_38 rfl rfl ?_
    refine lconst (pc' := 40) (v := (0 : Int64)) at_39 rfl rfl ?_
    refine lcmp (pc' := 41) at_40 rfl ?_
    refine ifc (pc' := 48) (pcF := 44) at_41 (by decide) rfl rfl (fun (g2 : ¬ ((lcmpW n (0 : Int64)) = (0 : Int32))) => ?_) (fun (g2 : (lcmpW n (0 : Int64)) = (0 : Int32)) => ?_)
    · skip
      refine iconst (pc' := 49) (v := (1 : Int32)) at_48 rfl rfl ?_
      exact J49 _ (sgn_pos (mt (lw_eq n 0).mpr g2) (mt (lw_lt n 0).mpr g1)).symm
    · skip
      refine iconst (pc' := 45) (v := (0 : Int32)) at_44 rfl rfl ?_
      refine goto (pc' := 49) at_45 (by decide) rfl ?_
      exact J49 _ ((by rw [(lw_eq n 0).mp g2]; decide : sgn n = 0)).symm
  · skip
    refine iconst (pc' := 35) (v := (-1 : Int32)) at_34 rfl rfl ?_
    refine goto (pc' := 49) at_35 (by decide) rfl ?_
    exact J49 _ (sgn_neg ((lw_lt n 0).mp g1)).symm
set_option maxRecDepth 65536 in
set_option maxHeartbeats 40000000 in
theorem comes_1 {Post : Tables → Env → Array Value → State → Outcome → State → Prop} (hpost : ∀ tb e args s v u, (limb_1_1.after args s (.returned v) u = true ∧ limb_1_2.after args s (.returned v) u = true ∧ True) → FrameEnd s (.returned v) u (Jvm.fieldLocs frame_1_writes args s ++ Jvm.arrayLocs frame_1_arrays args s ++ Jvm.staticLocs frame_1_statics s) 80 320 → Post tb e args s (.returned v) u) :
    ArmFor flags0 classFile x code maxLocals ret World_1 tables_1 room_1 Calls_1 rest_1 Pre_1 Post := by
  intro l hfl _ _ p e ha hc hk s m args below hf hA hF happ hP
  obtain ⟨hcalls, hrest, hpre⟩ := hP
  obtain ⟨-, -, -, hnamed, -, -, -, hat⟩ := (Spec.applies_iff hf).mp happ
  obtain ⟨hg, hn⟩ := and_e (Cond.before_iff.mp (show (Jvm.Cond.and given_1 narrow_1).before args s = true from hpre))
  obtain ⟨hcount, hg0⟩ := and_e hg
  obtain ⟨ga0, hg1⟩ := and_e hg0
  have ga1 := hg1
  obtain ⟨w0, w1, rfl⟩ : ∃ w0 w1 : Value, args = #[w0, w1] := by
    have hs : args.size = 2 := by simpa [Cond.value, given_1] using hcount
    obtain ⟨L⟩ := args
    match L, hs with
    | [w0, w1], _ => exact ⟨w0, w1, rfl⟩
  have hw := fun d (hd : d ∈ tables_1) => atoms_spec (ws := Jvm.Cond.code x code maxLocals ret :: tables_1) hat d (List.mem_cons_of_mem _ hd)
  have hfit : Fit s := fun {y c} hc i hi => by
    obtain ⟨ha, rfl⟩ := Array.getElem?_eq_some_iff.mp hc
    have q := List.all_eq_true.mp ((Array.all_eq_true_iff_forall_mem.mp hF) _ (Array.getElem_mem ha)) i (List.mem_range.mpr hi)
    simpa [Array.getElem?_eq_getElem hi] using q
  obtain ⟨hsets, hown0⟩ := atoms_of _ (rest_1_c_eq ▸ (show rest_1_c.before _ s = true from hrest))
  obtain ⟨i0, ei0⟩ := isL_v ga0
  obtain rfl : w0 = (.long i0) := Option.some.inj ei0
  obtain ⟨i1, ei1⟩ := isL_v ga1
  obtain rfl : w1 = (.long i1) := Option.some.inj ei1
  obtain ⟨gZERO, egZERO⟩ := exa_v (Cond.before_iff.mp (hsets _ (List.mem_of_getElem? (i := 224) rfl)))
  obtain ⟨mZERO, emZERO⟩ := exa_v (Cond.before_iff.mp (hsets _ (List.mem_of_getElem? (i := 227) rfl)))
  obtain ⟨kZERO, AZERO⟩ := arr_of (vs := []) (dv := (.int (0 : Int32))) hfit emZERO (Cond.before_iff.mp (hsets _ (List.mem_of_getElem? (i := 226) rfl))) (Cond.before_iff.mp (hsets _ (List.mem_of_getElem? (i := 228) rfl))) (by decide) rfl (fun i hi => absurd hi (Nat.not_lt_zero i)) (Nat.le_of_ble_eq_true rfl)
  have BZERO : BIc s s.heap gZERO (0) [] := ⟨Exa.start egZERO (Cond.before_iff.mp (hsets _ (List.mem_of_getElem? (i := 224) rfl))), fld_start egZERO (eqI (Cond.before_iff.mp (hsets _ (List.mem_of_getElem? (i := 225) rfl)))), mZERO, kZERO, fld_start egZERO emZERO, AZERO, Exa.start emZERO (Cond.before_iff.mp (hsets _ (List.mem_of_getElem? (i := 227) rfl)))⟩
  have SZERO : Sta s s.heap "java/math/BigInteger" "ZERO" "Ljava/math/BigInteger;" (.ref gZERO) := Sta.start egZERO (Or.inl (hsets _ (List.mem_of_getElem? (i := 223) rfl)))
  obtain ⟨gONE, egONE⟩ := exa_v (Cond.before_iff.mp (hsets _ (List.mem_of_getElem? (i := 112) rfl)))
  obtain ⟨mONE, emONE⟩ := exa_v (Cond.before_iff.mp (hsets _ (List.mem_of_getElem? (i := 115) rfl)))
  obtain ⟨kONE, AONE⟩ := arr_of (vs := [.int 1]) (dv := (.int (0 : Int32))) hfit emONE (Cond.before_iff.mp (hsets _ (List.mem_of_getElem? (i := 114) rfl))) (Cond.before_iff.mp (hsets _ (List.mem_of_getElem? (i := 116) rfl))) (by decide) rfl (fun i hi => by match i, hi with | 0, _ => exact eqI (Cond.before_iff.mp (hsets _ (List.mem_of_getElem? (i := 117) rfl)))) (Nat.le_of_ble_eq_true rfl)
  have BONE : BIc s s.heap gONE (1) [1] := ⟨Exa.start egONE (Cond.before_iff.mp (hsets _ (List.mem_of_getElem? (i := 112) rfl))), fld_start egONE (eqI (Cond.before_iff.mp (hsets _ (List.mem_of_getElem? (i := 113) rfl)))), mONE, kONE, fld_start egONE emONE, AONE, Exa.start emONE (Cond.before_iff.mp (hsets _ (List.mem_of_getElem? (i := 115) rfl)))⟩
  have SONE : Sta s s.heap "java/math/BigInteger" "ONE" "Ljava/math/BigInteger;" (.ref gONE) := Sta.start egONE (Or.inl (hsets _ (List.mem_of_getElem? (i := 3) rfl)))
  obtain ⟨gp, egp⟩ := exa_v (Cond.before_iff.mp (hsets _ (List.mem_of_getElem? (i := 9) rfl)))
  have Sp : Sta s s.heap "java/math/BigInteger" "posConst" "[Ljava/math/BigInteger;" (.ref gp) := Sta.start egp (Or.inl (hsets _ (List.mem_of_getElem? (i := 1) rfl)))
  obtain ⟨kp, vsp, Ap, hp⟩ := arr_any (dv := .null) hfit egp (Cond.before_iff.mp (hsets _ (List.mem_of_getElem? (i := 8) rfl))) (Cond.before_iff.mp (hsets _ (List.mem_of_getElem? (i := 10) rfl))) (by decide)
  obtain ⟨gp1, egp1⟩ := exa_v (Cond.before_iff.mp (hsets _ (List.mem_of_getElem? (i := 12) rfl)))
  obtain ⟨mp1, emp1⟩ := exa_v (Cond.before_iff.mp (hsets _ (List.mem_of_getElem? (i := 15) rfl)))
  obtain ⟨kp1, Ap1⟩ := arr_of (vs := [.int 1]) (dv := (.int (0 : Int32))) hfit emp1 (Cond.before_iff.mp (hsets _ (List.mem_of_getElem? (i := 14) rfl))) (Cond.before_iff.mp (hsets _ (List.mem_of_getElem? (i := 16) rfl))) (by decide) rfl (fun i hi => by match i, hi with | 0, _ => exact eqI (Cond.before_iff.mp (hsets _ (List.mem_of_getElem? (i := 17) rfl)))) (Nat.le_of_ble_eq_true rfl)
  have Bp1 : BIc s s.heap gp1 (1) [1] := ⟨Exa.start egp1 (Cond.before_iff.mp (hsets _ (List.mem_of_getElem? (i := 12) rfl))), fld_start egp1 (eqI (Cond.before_iff.mp (hsets _ (List.mem_of_getElem? (i := 13) rfl)))), mp1, kp1, fld_start egp1 emp1, Ap1, Exa.start emp1 (Cond.before_iff.mp (hsets _ (List.mem_of_getElem? (i := 15) rfl)))⟩
  obtain ⟨gp2, egp2⟩ := exa_v (Cond.before_iff.mp (hsets _ (List.mem_of_getElem? (i := 19) rfl)))
  obtain ⟨mp2, emp2⟩ := exa_v (Cond.before_iff.mp (hsets _ (List.mem_of_getElem? (i := 22) rfl)))
  obtain ⟨kp2, Ap2⟩ := arr_of (vs := [.int 2]) (dv := (.int (0 : Int32))) hfit emp2 (Cond.before_iff.mp (hsets _ (List.mem_of_getElem? (i := 21) rfl))) (Cond.before_iff.mp (hsets _ (List.mem_of_getElem? (i := 23) rfl))) (by decide) rfl (fun i hi => by match i, hi with | 0, _ => exact eqI (Cond.before_iff.mp (hsets _ (List.mem_of_getElem? (i := 24) rfl)))) (Nat.le_of_ble_eq_true rfl)
  have Bp2 : BIc s s.heap gp2 (1) [2] := ⟨Exa.start egp2 (Cond.before_iff.mp (hsets _ (List.mem_of_getElem? (i := 19) rfl))), fld_start egp2 (eqI (Cond.before_iff.mp (hsets _ (List.mem_of_getElem? (i := 20) rfl)))), mp2, kp2, fld_start egp2 emp2, Ap2, Exa.start emp2 (Cond.before_iff.mp (hsets _ (List.mem_of_getElem? (i := 22) rfl)))⟩
  obtain ⟨gp3, egp3⟩ := exa_v (Cond.before_iff.mp (hsets _ (List.mem_of_getElem? (i := 25) rfl)))
  obtain ⟨mp3, emp3⟩ := exa_v (Cond.before_iff.mp (hsets _ (List.mem_of_getElem? (i := 28) rfl)))
  obtain ⟨kp3, Ap3⟩ := arr_of (vs := [.int 3]) (dv := (.int (0 : Int32))) hfit emp3 (Cond.before_iff.mp (hsets _ (List.mem_of_getElem? (i := 27) rfl))) (Cond.before_iff.mp (hsets _ (List.mem_of_getElem? (i := 29) rfl))) (by decide) rfl (fun i hi => by match i, hi with | 0, _ => exact eqI (Cond.before_iff.mp (hsets _ (List.mem_of_getElem? (i := 30) rfl)))) (Nat.le_of_ble_eq_true rfl)
  have Bp3 : BIc s s.heap gp3 (1) [3] := ⟨Exa.start egp3 (Cond.before_iff.mp (hsets _ (List.mem_of_getElem? (i := 25) rfl))), fld_start egp3 (eqI (Cond.before_iff.mp (hsets _ (List.mem_of_getElem? (i := 26) rfl)))), mp3, kp3, fld_start egp3 emp3, Ap3, Exa.start emp3 (Cond.before_iff.mp (hsets _ (List.mem_of_getElem? (i := 28) rfl)))⟩
  obtain ⟨gp4, egp4⟩ := exa_v (Cond.before_iff.mp (hsets _ (List.mem_of_getElem? (i := 31) rfl)))
  obtain ⟨mp4, emp4⟩ := exa_v (Cond.before_iff.mp (hsets _ (List.mem_of_getElem? (i := 34) rfl)))
  obtain ⟨kp4, Ap4⟩ := arr_of (vs := [.int 4]) (dv := (.int (0 : Int32))) hfit emp4 (Cond.before_iff.mp (hsets _ (List.mem_of_getElem? (i := 33) rfl))) (Cond.before_iff.mp (hsets _ (List.mem_of_getElem? (i := 35) rfl))) (by decide) rfl (fun i hi => by match i, hi with | 0, _ => exact eqI (Cond.before_iff.mp (hsets _ (List.mem_of_getElem? (i := 36) rfl)))) (Nat.le_of_ble_eq_true rfl)
  have Bp4 : BIc s s.heap gp4 (1) [4] := ⟨Exa.start egp4 (Cond.before_iff.mp (hsets _ (List.mem_of_getElem? (i := 31) rfl))), fld_start egp4 (eqI (Cond.before_iff.mp (hsets _ (List.mem_of_getElem? (i := 32) rfl)))), mp4, kp4, fld_start egp4 emp4, Ap4, Exa.start emp4 (Cond.before_iff.mp (hsets _ (List.mem_of_getElem? (i := 34) rfl)))⟩
  obtain ⟨gp5, egp5⟩ := exa_v (Cond.before_iff.mp (hsets _ (List.mem_of_getElem? (i := 37) rfl)))
  obtain ⟨mp5, emp5⟩ := exa_v (Cond.before_iff.mp (hsets _ (List.mem_of_getElem? (i := 40) rfl)))
  obtain ⟨kp5, Ap5⟩ := arr_of (vs := [.int 5]) (dv := (.int (0 : Int32))) hfit emp5 (Cond.before_iff.mp (hsets _ (List.mem_of_getElem? (i := 39) rfl))) (Cond.before_iff.mp (hsets _ (List.mem_of_getElem? (i := 41) rfl))) (by decide) rfl (fun i hi => by match i, hi with | 0, _ => exact eqI (Cond.before_iff.mp (hsets _ (List.mem_of_getElem? (i := 42) rfl)))) (Nat.le_of_ble_eq_true rfl)
  have Bp5 : BIc s s.heap gp5 (1) [5] := ⟨Exa.start egp5 (Cond.before_iff.mp (hsets _ (List.mem_of_getElem? (i := 37) rfl))), fld_start egp5 (eqI (Cond.before_iff.mp (hsets _ (List.mem_of_getElem? (i := 38) rfl)))), mp5, kp5, fld_start egp5 emp5, Ap5, Exa.start emp5 (Cond.before_iff.mp (hsets _ (List.mem_of_getElem? (i := 40) rfl)))⟩
  obtain ⟨gp6, egp6⟩ := exa_v (Cond.before_iff.mp (hsets _ (List.mem_of_getElem? (i := 43) rfl)))
  obtain ⟨mp6, emp6⟩ := exa_v (Cond.before_iff.mp (hsets _ (List.mem_of_getElem? (i := 46) rfl)))
  obtain ⟨kp6, Ap6⟩ := arr_of (vs := [.int 6]) (dv := (.int (0 : Int32))) hfit emp6 (Cond.before_iff.mp (hsets _ (List.mem_of_getElem? (i := 45) rfl))) (Cond.before_iff.mp (hsets _ (List.mem_of_getElem? (i := 47) rfl))) (by decide) rfl (fun i hi => by match i, hi with | 0, _ => exact eqI (Cond.before_iff.mp (hsets _ (List.mem_of_getElem? (i := 48) rfl)))) (Nat.le_of_ble_eq_true rfl)
  have Bp6 : BIc s s.heap gp6 (1) [6] := ⟨Exa.start egp6 (Cond.before_iff.mp (hsets _ (List.mem_of_getElem? (i := 43) rfl))), fld_start egp6 (eqI (Cond.before_iff.mp (hsets _ (List.mem_of_getElem? (i := 44) rfl)))), mp6, kp6, fld_start egp6 emp6, Ap6, Exa.start emp6 (Cond.before_iff.mp (hsets _ (List.mem_of_getElem? (i := 46) rfl)))⟩
  obtain ⟨gp7, egp7⟩ := exa_v (Cond.before_iff.mp (hsets _ (List.mem_of_getElem? (i := 49) rfl)))
  obtain ⟨mp7, emp7⟩ := exa_v (Cond.before_iff.mp (hsets _ (List.mem_of_getElem? (i := 52) rfl)))
  obtain ⟨kp7, Ap7⟩ := arr_of (vs := [.int 7]) (dv := (.int (0 : Int32))) hfit emp7 (Cond.before_iff.mp (hsets _ (List.mem_of_getElem? (i := 51) rfl))) (Cond.before_iff.mp (hsets _ (List.mem_of_getElem? (i := 53) rfl))) (by decide) rfl (fun i hi => by match i, hi with | 0, _ => exact eqI (Cond.before_iff.mp (hsets _ (List.mem_of_getElem? (i := 54) rfl)))) (Nat.le_of_ble_eq_true rfl)
  have Bp7 : BIc s s.heap gp7 (1) [7] := ⟨Exa.start egp7 (Cond.before_iff.mp (hsets _ (List.mem_of_getElem? (i := 49) rfl))), fld_start egp7 (eqI (Cond.before_iff.mp (hsets _ (List.mem_of_getElem? (i := 50) rfl)))), mp7, kp7, fld_start egp7 emp7, Ap7, Exa.start emp7 (Cond.before_iff.mp (hsets _ (List.mem_of_getElem? (i := 52) rfl)))⟩
  obtain ⟨gp8, egp8⟩ := exa_v (Cond.before_iff.mp (hsets _ (List.mem_of_getElem? (i := 55) rfl)))
  obtain ⟨mp8, emp8⟩ := exa_v (Cond.before_iff.mp (hsets _ (List.mem_of_getElem? (i := 58) rfl)))
  obtain ⟨kp8, Ap8⟩ := arr_of (vs := [.int 8]) (dv := (.int (0 : Int32))) hfit emp8 (Cond.before_iff.mp (hsets _ (List.mem_of_getElem? (i := 57) rfl))) (Cond.before_iff.mp (hsets _ (List.mem_of_getElem? (i := 59) rfl))) (by decide) rfl (fun i hi => by match i, hi with | 0, _ => exact eqI (Cond.before_iff.mp (hsets _ (List.mem_of_getElem? (i := 60) rfl)))) (Nat.le_of_ble_eq_true rfl)
  have Bp8 : BIc s s.heap gp8 (1) [8] := ⟨Exa.start egp8 (Cond.before_iff.mp (hsets _ (List.mem_of_getElem? (i := 55) rfl))), fld_start egp8 (eqI (Cond.before_iff.mp (hsets _ (List.mem_of_getElem? (i := 56) rfl)))), mp8, kp8, fld_start egp8 emp8, Ap8, Exa.start emp8 (Cond.before_iff.mp (hsets _ (List.mem_of_getElem? (i := 58) rfl)))⟩
  obtain ⟨gp9, egp9⟩ := exa_v (Cond.before_iff.mp (hsets _ (List.mem_of_getElem? (i := 61) rfl)))
  obtain ⟨mp9, emp9⟩ := exa_v (Cond.before_iff.mp (hsets _ (List.mem_of_getElem? (i := 64) rfl)))
  obtain ⟨kp9, Ap9⟩ := arr_of (vs := [.int 9]) (dv := (.int (0 : Int32))) hfit emp9 (Cond.before_iff.mp (hsets _ (List.mem_of_getElem? (i := 63) rfl))) (Cond.before_iff.mp (hsets _ (List.mem_of_getElem? (i := 65) rfl))) (by decide) rfl (fun i hi => by match i, hi with | 0, _ => exact eqI (Cond.before_iff.mp (hsets _ (List.mem_of_getElem? (i := 66) rfl)))) (Nat.le_of_ble_eq_true rfl)
  have Bp9 : BIc s s.heap gp9 (1) [9] := ⟨Exa.start egp9 (Cond.before_iff.mp (hsets _ (List.mem_of_getElem? (i := 61) rfl))), fld_start egp9 (eqI (Cond.before_iff.mp (hsets _ (List.mem_of_getElem? (i := 62) rfl)))), mp9, kp9, fld_start egp9 emp9, Ap9, Exa.start emp9 (Cond.before_iff.mp (hsets _ (List.mem_of_getElem? (i := 64) rfl)))⟩
  obtain ⟨gp10, egp10⟩ := exa_v (Cond.before_iff.mp (hsets _ (List.mem_of_getElem? (i := 68) rfl)))
  obtain ⟨mp10, emp10⟩ := exa_v (Cond.before_iff.mp (hsets _ (List.mem_of_getElem? (i := 71) rfl)))
  obtain ⟨kp10, Ap10⟩ := arr_of (vs := [.int 10]) (dv := (.int (0 : Int32))) hfit emp10 (Cond.before_iff.mp (hsets _ (List.mem_of_getElem? (i := 70) rfl))) (Cond.before_iff.mp (hsets _ (List.mem_of_getElem? (i := 72) rfl))) (by decide) rfl (fun i hi => by match i, hi with | 0, _ => exact eqI (Cond.before_iff.mp (hsets _ (List.mem_of_getElem? (i := 73) rfl)))) (Nat.le_of_ble_eq_true rfl)
  have Bp10 : BIc s s.heap gp10 (1) [10] := ⟨Exa.start egp10 (Cond.before_iff.mp (hsets _ (List.mem_of_getElem? (i := 68) rfl))), fld_start egp10 (eqI (Cond.before_iff.mp (hsets _ (List.mem_of_getElem? (i := 69) rfl)))), mp10, kp10, fld_start egp10 emp10, Ap10, Exa.start emp10 (Cond.before_iff.mp (hsets _ (List.mem_of_getElem? (i := 71) rfl)))⟩
  obtain ⟨gp11, egp11⟩ := exa_v (Cond.before_iff.mp (hsets _ (List.mem_of_getElem? (i := 74) rfl)))
  obtain ⟨mp11, emp11⟩ := exa_v (Cond.before_iff.mp (hsets _ (List.mem_of_getElem? (i := 77) rfl)))
  obtain ⟨kp11, Ap11⟩ := arr_of (vs := [.int 11]) (dv := (.int (0 : Int32))) hfit emp11 (Cond.before_iff.mp (hsets _ (List.mem_of_getElem? (i := 76) rfl))) (Cond.before_iff.mp (hsets _ (List.mem_of_getElem? (i := 78) rfl))) (by decide) rfl (fun i hi => by match i, hi with | 0, _ => exact eqI (Cond.before_iff.mp (hsets _ (List.mem_of_getElem? (i := 79) rfl)))) (Nat.le_of_ble_eq_true rfl)
  have Bp11 : BIc s s.heap gp11 (1) [11] := ⟨Exa.start egp11 (Cond.before_iff.mp (hsets _ (List.mem_of_getElem? (i := 74) rfl))), fld_start egp11 (eqI (Cond.before_iff.mp (hsets _ (List.mem_of_getElem? (i := 75) rfl)))), mp11, kp11, fld_start egp11 emp11, Ap11, Exa.start emp11 (Cond.before_iff.mp (hsets _ (List.mem_of_getElem? (i := 77) rfl)))⟩
  obtain ⟨gp12, egp12⟩ := exa_v (Cond.before_iff.mp (hsets _ (List.mem_of_getElem? (i := 80) rfl)))
  obtain ⟨mp12, emp12⟩ := exa_v (Cond.before_iff.mp (hsets _ (List.mem_of_getElem? (i := 83) rfl)))
  obtain ⟨kp12, Ap12⟩ := arr_of (vs := [.int 12]) (dv := (.int (0 : Int32))) hfit emp12 (Cond.before_iff.mp (hsets _ (List.mem_of_getElem? (i := 82) rfl))) (Cond.before_iff.mp (hsets _ (List.mem_of_getElem? (i := 84) rfl))) (by decide) rfl (fun i hi => by match i, hi with | 0, _ => exact eqI (Cond.before_iff.mp (hsets _ (List.mem_of_getElem? (i := 85) rfl)))) (Nat.le_of_ble_eq_true rfl)
  have Bp12 : BIc s s.heap gp12 (1) [12] := ⟨Exa.start egp12 (Cond.before_iff.mp (hsets _ (List.mem_of_getElem? (i := 80) rfl))), fld_start egp12 (eqI (Cond.before_iff.mp (hsets _ (List.mem_of_getElem? (i := 81) rfl)))), mp12, kp12, fld_start egp12 emp12, Ap12, Exa.start emp12 (Cond.before_iff.mp (hsets _ (List.mem_of_getElem? (i := 83) rfl)))⟩
  obtain ⟨gp13, egp13⟩ := exa_v (Cond.before_iff.mp (hsets _ (List.mem_of_getElem? (i := 86) rfl)))
  obtain ⟨mp13, emp13⟩ := exa_v (Cond.before_iff.mp (hsets _ (List.mem_of_getElem? (i := 89) rfl)))
  obtain ⟨kp13, Ap13⟩ := arr_of (vs := [.int 13]) (dv := (.int (0 : Int32))) hfit emp13 (Cond.before_iff.mp (hsets _ (List.mem_of_getElem? (i := 88) rfl))) (Cond.before_iff.mp (hsets _ (List.mem_of_getElem? (i := 90) rfl))) (by decide) rfl (fun i hi => by match i, hi with | 0, _ => exact eqI (Cond.before_iff.mp (hsets _ (List.mem_of_getElem? (i := 91) rfl)))) (Nat.le_of_ble_eq_true rfl)
  have Bp13 : BIc s s.heap gp13 (1) [13] := ⟨Exa.start egp13 (Cond.before_iff.mp (hsets _ (List.mem_of_getElem? (i := 86) rfl))), fld_start egp13 (eqI (Cond.before_iff.mp (hsets _ (List.mem_of_getElem? (i := 87) rfl)))), mp13, kp13, fld_start egp13 emp13, Ap13, Exa.start emp13 (Cond.before_iff.mp (hsets _ (List.mem_of_getElem? (i := 89) rfl)))⟩
  obtain ⟨gp14, egp14⟩ := exa_v (Cond.before_iff.mp (hsets _ (List.mem_of_getElem? (i := 92) rfl)))
  obtain ⟨mp14, emp14⟩ := exa_v (Cond.before_iff.mp (hsets _ (List.mem_of_getElem? (i := 95) rfl)))
  obtain ⟨kp14, Ap14⟩ := arr_of (vs := [.int 14]) (dv := (.int (0 : Int32))) hfit emp14 (Cond.before_iff.mp (hsets _ (List.mem_of_getElem? (i := 94) rfl))) (Cond.before_iff.mp (hsets _ (List.mem_of_getElem? (i := 96) rfl))) (by decide) rfl (fun i hi => by match i, hi with | 0, _ => exact eqI (Cond.before_iff.mp (hsets _ (List.mem_of_getElem? (i := 97) rfl)))) (Nat.le_of_ble_eq_true rfl)
  have Bp14 : BIc s s.heap gp14 (1) [14] := ⟨Exa.start egp14 (Cond.before_iff.mp (hsets _ (List.mem_of_getElem? (i := 92) rfl))), fld_start egp14 (eqI (Cond.before_iff.mp (hsets _ (List.mem_of_getElem? (i := 93) rfl)))), mp14, kp14, fld_start egp14 emp14, Ap14, Exa.start emp14 (Cond.before_iff.mp (hsets _ (List.mem_of_getElem? (i := 95) rfl)))⟩
  obtain ⟨gp15, egp15⟩ := exa_v (Cond.before_iff.mp (hsets _ (List.mem_of_getElem? (i := 98) rfl)))
  obtain ⟨mp15, emp15⟩ := exa_v (Cond.before_iff.mp (hsets _ (List.mem_of_getElem? (i := 101) rfl)))
  obtain ⟨kp15, Ap15⟩ := arr_of (vs := [.int 15]) (dv := (.int (0 : Int32))) hfit emp15 (Cond.before_iff.mp (hsets _ (List.mem_of_getElem? (i := 100) rfl))) (Cond.before_iff.mp (hsets _ (List.mem_of_getElem? (i := 102) rfl))) (by decide) rfl (fun i hi => by match i, hi with | 0, _ => exact eqI (Cond.before_iff.mp (hsets _ (List.mem_of_getElem? (i := 103) rfl)))) (Nat.le_of_ble_eq_true rfl)
  have Bp15 : BIc s s.heap gp15 (1) [15] := ⟨Exa.start egp15 (Cond.before_iff.mp (hsets _ (List.mem_of_getElem? (i := 98) rfl))), fld_start egp15 (eqI (Cond.before_iff.mp (hsets _ (List.mem_of_getElem? (i := 99) rfl)))), mp15, kp15, fld_start egp15 emp15, Ap15, Exa.start emp15 (Cond.before_iff.mp (hsets _ (List.mem_of_getElem? (i := 101) rfl)))⟩
  obtain ⟨gp16, egp16⟩ := exa_v (Cond.before_iff.mp (hsets _ (List.mem_of_getElem? (i := 104) rfl)))
  obtain ⟨mp16, emp16⟩ := exa_v (Cond.before_iff.mp (hsets _ (List.mem_of_getElem? (i := 107) rfl)))
  obtain ⟨kp16, Ap16⟩ := arr_of (vs := [.int 16]) (dv := (.int (0 : Int32))) hfit emp16 (Cond.before_iff.mp (hsets _ (List.mem_of_getElem? (i := 106) rfl))) (Cond.before_iff.mp (hsets _ (List.mem_of_getElem? (i := 108) rfl))) (by decide) rfl (fun i hi => by match i, hi with | 0, _ => exact eqI (Cond.before_iff.mp (hsets _ (List.mem_of_getElem? (i := 109) rfl)))) (Nat.le_of_ble_eq_true rfl)
  have Bp16 : BIc s s.heap gp16 (1) [16] := ⟨Exa.start egp16 (Cond.before_iff.mp (hsets _ (List.mem_of_getElem? (i := 104) rfl))), fld_start egp16 (eqI (Cond.before_iff.mp (hsets _ (List.mem_of_getElem? (i := 105) rfl)))), mp16, kp16, fld_start egp16 emp16, Ap16, Exa.start emp16 (Cond.before_iff.mp (hsets _ (List.mem_of_getElem? (i := 107) rfl)))⟩
  have cp : ∀ i : Nat, 1 ≤ i → i ≤ 16 → ∃ a : Addr, vsp.getD i .null = .ref a ∧ BIc s s.heap a (1) [Int32.ofNat i] := fun i h1 h2 => by
    have : i = 1 ∨ i = 2 ∨ i = 3 ∨ i = 4 ∨ i = 5 ∨ i = 6 ∨ i = 7 ∨ i = 8 ∨ i = 9 ∨ i = 10 ∨ i = 11 ∨ i = 12 ∨ i = 13 ∨ i = 14 ∨ i = 15 ∨ i = 16 := by omega
    rcases this with rfl | rfl | rfl | rfl | rfl | rfl | rfl | rfl | rfl | rfl | rfl | rfl | rfl | rfl | rfl | rfl
    · exact ⟨gp1, hp 1 _ (by decide) egp1, Bp1⟩
    · exact ⟨gp2, hp 2 _ (by decide) egp2, Bp2⟩
    · exact ⟨gp3, hp 3 _ (by decide) egp3, Bp3⟩
    · exact ⟨gp4, hp 4 _ (by decide) egp4, Bp4⟩
    · exact ⟨gp5, hp 5 _ (by decide) egp5, Bp5⟩
    · exact ⟨gp6, hp 6 _ (by decide) egp6, Bp6⟩
    · exact ⟨gp7, hp 7 _ (by decide) egp7, Bp7⟩
    · exact ⟨gp8, hp 8 _ (by decide) egp8, Bp8⟩
    · exact ⟨gp9, hp 9 _ (by decide) egp9, Bp9⟩
    · exact ⟨gp10, hp 10 _ (by decide) egp10, Bp10⟩
    · exact ⟨gp11, hp 11 _ (by decide) egp11, Bp11⟩
    · exact ⟨gp12, hp 12 _ (by decide) egp12, Bp12⟩
    · exact ⟨gp13, hp 13 _ (by decide) egp13, Bp13⟩
    · exact ⟨gp14, hp 14 _ (by decide) egp14, Bp14⟩
    · exact ⟨gp15, hp 15 _ (by decide) egp15, Bp15⟩
    · exact ⟨gp16, hp 16 _ (by decide) egp16, Bp16⟩
  obtain ⟨gn, egn⟩ := exa_v (Cond.before_iff.mp (hsets _ (List.mem_of_getElem? (i := 123) rfl)))
  have Sn : Sta s s.heap "java/math/BigInteger" "negConst" "[Ljava/math/BigInteger;" (.ref gn) := Sta.start egn (Or.inl (hsets _ (List.mem_of_getElem? (i := 119) rfl)))
  obtain ⟨kn, vsn, An, hn⟩ := arr_any (dv := .null) hfit egn (Cond.before_iff.mp (hsets _ (List.mem_of_getElem? (i := 122) rfl))) (Cond.before_iff.mp (hsets _ (List.mem_of_getElem? (i := 124) rfl))) (by decide)
  obtain ⟨gn1, egn1⟩ := exa_v (Cond.before_iff.mp (hsets _ (List.mem_of_getElem? (i := 126) rfl)))
  obtain ⟨mn1, emn1⟩ := exa_v (Cond.before_iff.mp (hsets _ (List.mem_of_getElem? (i := 129) rfl)))
  obtain ⟨kn1, An1⟩ := arr_of (vs := [.int 1]) (dv := (.int (0 : Int32))) hfit emn1 (Cond.before_iff.mp (hsets _ (List.mem_of_getElem? (i := 128) rfl))) (Cond.before_iff.mp (hsets _ (List.mem_of_getElem? (i := 130) rfl))) (by decide) rfl (fun i hi => by match i, hi with | 0, _ => exact eqI (Cond.before_iff.mp (hsets _ (List.mem_of_getElem? (i := 131) rfl)))) (Nat.le_of_ble_eq_true rfl)
  have Bn1 : BIc s s.heap gn1 (-1) [1] := ⟨Exa.start egn1 (Cond.before_iff.mp (hsets _ (List.mem_of_getElem? (i := 126) rfl))), fld_start egn1 (eqI (Cond.before_iff.mp (hsets _ (List.mem_of_getElem? (i := 127) rfl)))), mn1, kn1, fld_start egn1 emn1, An1, Exa.start emn1 (Cond.before_iff.mp (hsets _ (List.mem_of_getElem? (i := 129) rfl)))⟩
  obtain ⟨gn2, egn2⟩ := exa_v (Cond.before_iff.mp (hsets _ (List.mem_of_getElem? (i := 132) rfl)))
  obtain ⟨mn2, emn2⟩ := exa_v (Cond.before_iff.mp (hsets _ (List.mem_of_getElem? (i := 135) rfl)))
  obtain ⟨kn2, An2⟩ := arr_of (vs := [.int 2]) (dv := (.int (0 : Int32))) hfit emn2 (Cond.before_iff.mp (hsets _ (List.mem_of_getElem? (i := 134) rfl))) (Cond.before_iff.mp (hsets _ (List.mem_of_getElem? (i := 136) rfl))) (by decide) rfl (fun i hi => by match i, hi with | 0, _ => exact eqI (Cond.before_iff.mp (hsets _ (List.mem_of_getElem? (i := 137) rfl)))) (Nat.le_of_ble_eq_true rfl)
  have Bn2 : BIc s s.heap gn2 (-1) [2] := ⟨Exa.start egn2 (Cond.before_iff.mp (hsets _ (List.mem_of_getElem? (i := 132) rfl))), fld_start egn2 (eqI (Cond.before_iff.mp (hsets _ (List.mem_of_getElem? (i := 133) rfl)))), mn2, kn2, fld_start egn2 emn2, An2, Exa.start emn2 (Cond.before_iff.mp (hsets _ (List.mem_of_getElem? (i := 135) rfl)))⟩
  obtain ⟨gn3, egn3⟩ := exa_v (Cond.before_iff.mp (hsets _ (List.mem_of_getElem? (i := 138) rfl)))
  obtain ⟨mn3, emn3⟩ := exa_v (Cond.before_iff.mp (hsets _ (List.mem_of_getElem? (i := 141) rfl)))
  obtain ⟨kn3, An3⟩ := arr_of (vs := [.int 3]) (dv := (.int (0 : Int32))) hfit emn3 (Cond.before_iff.mp (hsets _ (List.mem_of_getElem? (i := 140) rfl))) (Cond.before_iff.mp (hsets _ (List.mem_of_getElem? (i := 142) rfl))) (by decide) rfl (fun i hi => by match i, hi with | 0, _ => exact eqI (Cond.before_iff.mp (hsets _ (List.mem_of_getElem? (i := 143) rfl)))) (Nat.le_of_ble_eq_true rfl)
  have Bn3 : BIc s s.heap gn3 (-1) [3] := ⟨Exa.start egn3 (Cond.before_iff.mp (hsets _ (List.mem_of_getElem? (i := 138) rfl))), fld_start egn3 (eqI (Cond.before_iff.mp (hsets _ (List.mem_of_getElem? (i := 139) rfl)))), mn3, kn3, fld_start egn3 emn3, An3, Exa.start emn3 (Cond.before_iff.mp (hsets _ (List.mem_of_getElem? (i := 141) rfl)))⟩
  obtain ⟨gn4, egn4⟩ := exa_v (Cond.before_iff.mp (hsets _ (List.mem_of_getElem? (i := 144) rfl)))
  obtain ⟨mn4, emn4⟩ := exa_v (Cond.before_iff.mp (hsets _ (List.mem_of_getElem? (i := 147) rfl)))
  obtain ⟨kn4, An4⟩ := arr_of (vs := [.int 4]) (dv := (.int (0 : Int32))) hfit emn4 (Cond.before_iff.mp (hsets _ (List.mem_of_getElem? (i := 146) rfl))) (Cond.before_iff.mp (hsets _ (List.mem_of_getElem? (i := 148) rfl))) (by decide) rfl (fun i hi => by match i, hi with | 0, _ => exact eqI (Cond.before_iff.mp (hsets _ (List.mem_of_getElem? (i := 149) rfl)))) (Nat.le_of_ble_eq_true rfl)
  have Bn4 : BIc s s.heap gn4 (-1) [4] := ⟨Exa.start egn4 (Cond.before_iff.mp (hsets _ (List.mem_of_getElem? (i := 144) rfl))), fld_start egn4 (eqI (Cond.before_iff.mp (hsets _ (List.mem_of_getElem? (i := 145) rfl)))), mn4, kn4, fld_start egn4 emn4, An4, Exa.start emn4 (Cond.before_iff.mp (hsets _ (List.mem_of_getElem? (i := 147) rfl)))⟩
  obtain ⟨gn5, egn5⟩ := exa_v (Cond.before_iff.mp (hsets _ (List.mem_of_getElem? (i := 150) rfl)))
  obtain ⟨mn5, emn5⟩ := exa_v (Cond.before_iff.mp (hsets _ (List.mem_of_getElem? (i := 153) rfl)))
  obtain ⟨kn5, An5⟩ := arr_of (vs := [.int 5]) (dv := (.int (0 : Int32))) hfit emn5 (Cond.before_iff.mp (hsets _ (List.mem_of_getElem? (i := 152) rfl))) (Cond.before_iff.mp (hsets _ (List.mem_of_getElem? (i := 154) rfl))) (by decide) rfl (fun i hi => by match i, hi with | 0, _ => exact eqI (Cond.before_iff.mp (hsets _ (List.mem_of_getElem? (i := 155) rfl)))) (Nat.le_of_ble_eq_true rfl)
  have Bn5 : BIc s s.heap gn5 (-1) [5] := ⟨Exa.start egn5 (Cond.before_iff.mp (hsets _ (List.mem_of_getElem? (i := 150) rfl))), fld_start egn5 (eqI (Cond.before_iff.mp (hsets _ (List.mem_of_getElem? (i := 151) rfl)))), mn5, kn5, fld_start egn5 emn5, An5, Exa.start emn5 (Cond.before_iff.mp (hsets _ (List.mem_of_getElem? (i := 153) rfl)))⟩
  obtain ⟨gn6, egn6⟩ := exa_v (Cond.before_iff.mp (hsets _ (List.mem_of_getElem? (i := 156) rfl)))
  obtain ⟨mn6, emn6⟩ := exa_v (Cond.before_iff.mp (hsets _ (List.mem_of_getElem? (i := 159) rfl)))
  obtain ⟨kn6, An6⟩ := arr_of (vs := [.int 6]) (dv := (.int (0 : Int32))) hfit emn6 (Cond.before_iff.mp (hsets _ (List.mem_of_getElem? (i := 158) rfl))) (Cond.before_iff.mp (hsets _ (List.mem_of_getElem? (i := 160) rfl))) (by decide) rfl (fun i hi => by match i, hi with | 0, _ => exact eqI (Cond.before_iff.mp (hsets _ (List.mem_of_getElem? (i := 161) rfl)))) (Nat.le_of_ble_eq_true rfl)
  have Bn6 : BIc s s.heap gn6 (-1) [6] := ⟨Exa.start egn6 (Cond.before_iff.mp (hsets _ (List.mem_of_getElem? (i := 156) rfl))), fld_start egn6 (eqI (Cond.before_iff.mp (hsets _ (List.mem_of_getElem? (i := 157) rfl)))), mn6, kn6, fld_start egn6 emn6, An6, Exa.start emn6 (Cond.before_iff.mp (hsets _ (List.mem_of_getElem? (i := 159) rfl)))⟩
  obtain ⟨gn7, egn7⟩ := exa_v (Cond.before_iff.mp (hsets _ (List.mem_of_getElem? (i := 162) rfl)))
  obtain ⟨mn7, emn7⟩ := exa_v (Cond.before_iff.mp (hsets _ (List.mem_of_getElem? (i := 165) rfl)))
  obtain ⟨kn7, An7⟩ := arr_of (vs := [.int 7]) (dv := (.int (0 : Int32))) hfit emn7 (Cond.before_iff.mp (hsets _ (List.mem_of_getElem? (i := 164) rfl))) (Cond.before_iff.mp (hsets _ (List.mem_of_getElem? (i := 166) rfl))) (by decide) rfl (fun i hi => by match i, hi with | 0, _ => exact eqI (Cond.before_iff.mp (hsets _ (List.mem_of_getElem? (i := 167) rfl)))) (Nat.le_of_ble_eq_true rfl)
  have Bn7 : BIc s s.heap gn7 (-1) [7] := ⟨Exa.start egn7 (Cond.before_iff.mp (hsets _ (List.mem_of_getElem? (i := 162) rfl))), fld_start egn7 (eqI (Cond.before_iff.mp (hsets _ (List.mem_of_getElem? (i := 163) rfl)))), mn7, kn7, fld_start egn7 emn7, An7, Exa.start emn7 (Cond.before_iff.mp (hsets _ (List.mem_of_getElem? (i := 165) rfl)))⟩
  obtain ⟨gn8, egn8⟩ := exa_v (Cond.before_iff.mp (hsets _ (List.mem_of_getElem? (i := 168) rfl)))
  obtain ⟨mn8, emn8⟩ := exa_v (Cond.before_iff.mp (hsets _ (List.mem_of_getElem? (i := 171) rfl)))
  obtain ⟨kn8, An8⟩ := arr_of (vs := [.int 8]) (dv := (.int (0 : Int32))) hfit emn8 (Cond.before_iff.mp (hsets _ (List.mem_of_getElem? (i := 170) rfl))) (Cond.before_iff.mp (hsets _ (List.mem_of_getElem? (i := 172) rfl))) (by decide) rfl (fun i hi => by match i, hi with | 0, _ => exact eqI (Cond.before_iff.mp (hsets _ (List.mem_of_getElem? (i := 173) rfl)))) (Nat.le_of_ble_eq_true rfl)
  have Bn8 : BIc s s.heap gn8 (-1) [8] := ⟨Exa.start egn8 (Cond.before_iff.mp (hsets _ (List.mem_of_getElem? (i := 168) rfl))), fld_start egn8 (eqI (Cond.before_iff.mp (hsets _ (List.mem_of_getElem? (i := 169) rfl)))), mn8, kn8, fld_start egn8 emn8, An8, Exa.start emn8 (Cond.before_iff.mp (hsets _ (List.mem_of_getElem? (i := 171) rfl)))⟩
  obtain ⟨gn9, egn9⟩ := exa_v (Cond.before_iff.mp (hsets _ (List.mem_of_getElem? (i := 174) rfl)))
  obtain ⟨mn9, emn9⟩ := exa_v (Cond.before_iff.mp (hsets _ (List.mem_of_getElem? (i := 177) rfl)))
  obtain ⟨kn9, An9⟩ := arr_of (vs := [.int 9]) (dv := (.int (0 : Int32))) hfit emn9 (Cond.before_iff.mp (hsets _ (List.mem_of_getElem? (i := 176) rfl))) (Cond.before_iff.mp (hsets _ (List.mem_of_getElem? (i := 178) rfl))) (by decide) rfl (fun i hi => by match i, hi with | 0, _ => exact eqI (Cond.before_iff.mp (hsets _ (List.mem_of_getElem? (i := 179) rfl)))) (Nat.le_of_ble_eq_true rfl)
  have Bn9 : BIc s s.heap gn9 (-1) [9] := ⟨Exa.start egn9 (Cond.before_iff.mp (hsets _ (List.mem_of_getElem? (i := 174) rfl))), fld_start egn9 (eqI (Cond.before_iff.mp (hsets _ (List.mem_of_getElem? (i := 175) rfl)))), mn9, kn9, fld_start egn9 emn9, An9, Exa.start emn9 (Cond.before_iff.mp (hsets _ (List.mem_of_getElem? (i := 177) rfl)))⟩
  obtain ⟨gn10, egn10⟩ := exa_v (Cond.before_iff.mp (hsets _ (List.mem_of_getElem? (i := 180) rfl)))
  obtain ⟨mn10, emn10⟩ := exa_v (Cond.before_iff.mp (hsets _ (List.mem_of_getElem? (i := 183) rfl)))
  obtain ⟨kn10, An10⟩ := arr_of (vs := [.int 10]) (dv := (.int (0 : Int32))) hfit emn10 (Cond.before_iff.mp (hsets _ (List.mem_of_getElem? (i := 182) rfl))) (Cond.before_iff.mp (hsets _ (List.mem_of_getElem? (i := 184) rfl))) (by decide) rfl (fun i hi => by match i, hi with | 0, _ => exact eqI (Cond.before_iff.mp (hsets _ (List.mem_of_getElem? (i := 185) rfl)))) (Nat.le_of_ble_eq_true rfl)
  have Bn10 : BIc s s.heap gn10 (-1) [10] := ⟨Exa.start egn10 (Cond.before_iff.mp (hsets _ (List.mem_of_getElem? (i := 180) rfl))), fld_start egn10 (eqI (Cond.before_iff.mp (hsets _ (List.mem_of_getElem? (i := 181) rfl)))), mn10, kn10, fld_start egn10 emn10, An10, Exa.start emn10 (Cond.before_iff.mp (hsets _ (List.mem_of_getElem? (i := 183) rfl)))⟩
  obtain ⟨gn11, egn11⟩ := exa_v (Cond.before_iff.mp (hsets _ (List.mem_of_getElem? (i := 186) rfl)))
  obtain ⟨mn11, emn11⟩ := exa_v (Cond.before_iff.mp (hsets _ (List.mem_of_getElem? (i := 189) rfl)))
  obtain ⟨kn11, An11⟩ := arr_of (vs := [.int 11]) (dv := (.int (0 : Int32))) hfit emn11 (Cond.before_iff.mp (hsets _ (List.mem_of_getElem? (i := 188) rfl))) (Cond.before_iff.mp (hsets _ (List.mem_of_getElem? (i := 190) rfl))) (by decide) rfl (fun i hi => by match i, hi with | 0, _ => exact eqI (Cond.before_iff.mp (hsets _ (List.mem_of_getElem? (i := 191) rfl)))) (Nat.le_of_ble_eq_true rfl)
  have Bn11 : BIc s s.heap gn11 (-1) [11] := ⟨Exa.start egn11 (Cond.before_iff.mp (hsets _ (List.mem_of_getElem? (i := 186) rfl))), fld_start egn11 (eqI (Cond.before_iff.mp (hsets _ (List.mem_of_getElem? (i := 187) rfl)))), mn11, kn11, fld_start egn11 emn11, An11, Exa.start emn11 (Cond.before_iff.mp (hsets _ (List.mem_of_getElem? (i := 189) rfl)))⟩
  obtain ⟨gn12, egn12⟩ := exa_v (Cond.before_iff.mp (hsets _ (List.mem_of_getElem? (i := 192) rfl)))
  obtain ⟨mn12, emn12⟩ := exa_v (Cond.before_iff.mp (hsets _ (List.mem_of_getElem? (i := 195) rfl)))
  obtain ⟨kn12, An12⟩ := arr_of (vs := [.int 12]) (dv := (.int (0 : Int32))) hfit emn12 (Cond.before_iff.mp (hsets _ (List.mem_of_getElem? (i := 194) rfl))) (Cond.before_iff.mp (hsets _ (List.mem_of_getElem? (i := 196) rfl))) (by decide) rfl (fun i hi => by match i, hi with | 0, _ => exact eqI (Cond.before_iff.mp (hsets _ (List.mem_of_getElem? (i := 197) rfl)))) (Nat.le_of_ble_eq_true rfl)
  have Bn12 : BIc s s.heap gn12 (-1) [12] := ⟨Exa.start egn12 (Cond.before_iff.mp (hsets _ (List.mem_of_getElem? (i := 192) rfl))), fld_start egn12 (eqI (Cond.before_iff.mp (hsets _ (List.mem_of_getElem? (i := 193) rfl)))), mn12, kn12, fld_start egn12 emn12, An12, Exa.start emn12 (Cond.before_iff.mp (hsets _ (List.mem_of_getElem? (i := 195) rfl)))⟩
  obtain ⟨gn13, egn13⟩ := exa_v (Cond.before_iff.mp (hsets _ (List.mem_of_getElem? (i := 198) rfl)))
  obtain ⟨mn13, emn13⟩ := exa_v (Cond.before_iff.mp (hsets _ (List.mem_of_getElem? (i := 201) rfl)))
  obtain ⟨kn13, An13⟩ := arr_of (vs := [.int 13]) (dv := (.int (0 : Int32))) hfit emn13 (Cond.before_iff.mp (hsets _ (List.mem_of_getElem? (i := 200) rfl))) (Cond.before_iff.mp (hsets _ (List.mem_of_getElem? (i := 202) rfl))) (by decide) rfl (fun i hi => by match i, hi with | 0, _ => exact eqI (Cond.before_iff.mp (hsets _ (List.mem_of_getElem? (i := 203) rfl)))) (Nat.le_of_ble_eq_true rfl)
  have Bn13 : BIc s s.heap gn13 (-1) [13] := ⟨Exa.start egn13 (Cond.before_iff.mp (hsets _ (List.mem_of_getElem? (i := 198) rfl))), fld_start egn13 (eqI (Cond.before_iff.mp (hsets _ (List.mem_of_getElem? (i := 199) rfl)))), mn13, kn13, fld_start egn13 emn13, An13, Exa.start emn13 (Cond.before_iff.mp (hsets _ (List.mem_of_getElem? (i := 201) rfl)))⟩
  obtain ⟨gn14, egn14⟩ := exa_v (Cond.before_iff.mp (hsets _ (List.mem_of_getElem? (i := 204) rfl)))
  obtain ⟨mn14, emn14⟩ := exa_v (Cond.before_iff.mp (hsets _ (List.mem_of_getElem? (i := 207) rfl)))
  obtain ⟨kn14, An14⟩ := arr_of (vs := [.int 14]) (dv := (.int (0 : Int32))) hfit emn14 (Cond.before_iff.mp (hsets _ (List.mem_of_getElem? (i := 206) rfl))) (Cond.before_iff.mp (hsets _ (List.mem_of_getElem? (i := 208) rfl))) (by decide) rfl (fun i hi => by match i, hi with | 0, _ => exact eqI (Cond.before_iff.mp (hsets _ (List.mem_of_getElem? (i := 209) rfl)))) (Nat.le_of_ble_eq_true rfl)
  have Bn14 : BIc s s.heap gn14 (-1) [14] := ⟨Exa.start egn14 (Cond.before_iff.mp (hsets _ (List.mem_of_getElem? (i := 204) rfl))), fld_start egn14 (eqI (Cond.before_iff.mp (hsets _ (List.mem_of_getElem? (i := 205) rfl)))), mn14, kn14, fld_start egn14 emn14, An14, Exa.start emn14 (Cond.before_iff.mp (hsets _ (List.mem_of_getElem? (i := 207) rfl)))⟩
  obtain ⟨gn15, egn15⟩ := exa_v (Cond.before_iff.mp (hsets _ (List.mem_of_getElem? (i := 210) rfl)))
  obtain ⟨mn15, emn15⟩ := exa_v (Cond.before_iff.mp (hsets _ (List.mem_of_getElem? (i := 213) rfl)))
  obtain ⟨kn15, An15⟩ := arr_of (vs := [.int 15]) (dv := (.int (0 : Int32))) hfit emn15 (Cond.before_iff.mp (hsets _ (List.mem_of_getElem? (i := 212) rfl))) (Cond.before_iff.mp (hsets _ (List.mem_of_getElem? (i := 214) rfl))) (by decide) rfl (fun i hi => by match i, hi with | 0, _ => exact eqI (Cond.before_iff.mp (hsets _ (List.mem_of_getElem? (i := 215) rfl)))) (Nat.le_of_ble_eq_true rfl)
  have Bn15 : BIc s s.heap gn15 (-1) [15] := ⟨Exa.start egn15 (Cond.before_iff.mp (hsets _ (List.mem_of_getElem? (i := 210) rfl))), fld_start egn15 (eqI (Cond.before_iff.mp (hsets _ (List.mem_of_getElem? (i := 211) rfl)))), mn15, kn15, fld_start egn15 emn15, An15, Exa.start emn15 (Cond.before_iff.mp (hsets _ (List.mem_of_getElem? (i := 213) rfl)))⟩
  obtain ⟨gn16, egn16⟩ := exa_v (Cond.before_iff.mp (hsets _ (List.mem_of_getElem? (i := 216) rfl)))
  obtain ⟨mn16, emn16⟩ := exa_v (Cond.before_iff.mp (hsets _ (List.mem_of_getElem? (i := 219) rfl)))
  obtain ⟨kn16, An16⟩ := arr_of (vs := [.int 16]) (dv := (.int (0 : Int32))) hfit emn16 (Cond.before_iff.mp (hsets _ (List.mem_of_getElem? (i := 218) rfl))) (Cond.before_iff.mp (hsets _ (List.mem_of_getElem? (i := 220) rfl))) (by decide) rfl (fun i hi => by match i, hi with | 0, _ => exact eqI (Cond.before_iff.mp (hsets _ (List.mem_of_getElem? (i := 221) rfl)))) (Nat.le_of_ble_eq_true rfl)
  have Bn16 : BIc s s.heap gn16 (-1) [16] := ⟨Exa.start egn16 (Cond.before_iff.mp (hsets _ (List.mem_of_getElem? (i := 216) rfl))), fld_start egn16 (eqI (Cond.before_iff.mp (hsets _ (List.mem_of_getElem? (i := 217) rfl)))), mn16, kn16, fld_start egn16 emn16, An16, Exa.start emn16 (Cond.before_iff.mp (hsets _ (List.mem_of_getElem? (i := 219) rfl)))⟩
  have cn : ∀ i : Nat, 1 ≤ i → i ≤ 16 → ∃ a : Addr, vsn.getD i .null = .ref a ∧ BIc s s.heap a (-1) [Int32.ofNat i] := fun i h1 h2 => by
    have : i = 1 ∨ i = 2 ∨ i = 3 ∨ i = 4 ∨ i = 5 ∨ i = 6 ∨ i = 7 ∨ i = 8 ∨ i = 9 ∨ i = 10 ∨ i = 11 ∨ i = 12 ∨ i = 13 ∨ i = 14 ∨ i = 15 ∨ i = 16 := by omega
    rcases this with rfl | rfl | rfl | rfl | rfl | rfl | rfl | rfl | rfl | rfl | rfl | rfl | rfl | rfl | rfl | rfl
    · exact ⟨gn1, hn 1 _ (by decide) egn1, Bn1⟩
    · exact ⟨gn2, hn 2 _ (by decide) egn2, Bn2⟩
    · exact ⟨gn3, hn 3 _ (by decide) egn3, Bn3⟩
    · exact ⟨gn4, hn 4 _ (by decide) egn4, Bn4⟩
    · exact ⟨gn5, hn 5 _ (by decide) egn5, Bn5⟩
    · exact ⟨gn6, hn 6 _ (by decide) egn6, Bn6⟩
    · exact ⟨gn7, hn 7 _ (by decide) egn7, Bn7⟩
    · exact ⟨gn8, hn 8 _ (by decide) egn8, Bn8⟩
    · exact ⟨gn9, hn 9 _ (by decide) egn9, Bn9⟩
    · exact ⟨gn10, hn 10 _ (by decide) egn10, Bn10⟩
    · exact ⟨gn11, hn 11 _ (by decide) egn11, Bn11⟩
    · exact ⟨gn12, hn 12 _ (by decide) egn12, Bn12⟩
    · exact ⟨gn13, hn 13 _ (by decide) egn13, Bn13⟩
    · exact ⟨gn14, hn 14 _ (by decide) egn14, Bn14⟩
    · exact ⟨gn15, hn 15 _ (by decide) egn15, Bn15⟩
    · exact ⟨gn16, hn 16 _ (by decide) egn16, Bn16⟩
  have hC : Caches s := ⟨⟨gZERO, SZERO, BZERO⟩, ⟨gONE, SONE, BONE⟩, ⟨gp, kp, vsp, Sp, Ap, cp⟩, ⟨gn, kn, vsn, Sn, An, cn⟩⟩
  obtain ⟨n, o, h1, h2, h3, v, L, rfl, ⟨rfl, N, -⟩, hCH, hE, hWm⟩ := law_met l s _ hw EW.nil s.heap.size i0 i1 s.heap hC p e ha hc hk s m _ below hf ((Spec.applies_iff_loose hf).mp happ).1 ⟨rfl, State.Warmed39.refl s, rfl, nilCHv, Old.start s, fun x q => nomatch q⟩ trivial
  refine ⟨n, _, h1, h2, h3, hpost _ _ _ _ _ _ ⟨Cond.after_iff.mpr rfl, Cond.after_iff.mpr (eq_i res_at (Term.int_eval (1)) rfl), trivial⟩ ⟨⟨_, rfl⟩, hWm rfl, (hE.2.2.2.sift fun y hy => Or.inr (N y hy)).mono (by decide) (by decide)⟩⟩
theorem main_1_1 : Claimed_1_1 := comes_1 fun _ _ _ _ _ _ h hF => ⟨h.1, hF⟩
theorem main_1_2 : Claimed_1_2 := comes_1 fun _ _ _ _ _ _ h hF => ⟨h.2.1, hF⟩
end Jvm.Pilot.@@N@@
namespace Jvm.Pilot.@@N@@
open Jvm Jvm.ClassFile Sem Op Lib Jvm.Free Jvm.Stand Jvm.Pilot.@@N@@.Jvm.D
/-! MADE BY PROGRAM (witnessworld.py) out of the Statement's table words and the real class files: 20 classes; the members and pool entries that the words name. The judged class is class 1, her method 1. -/
namespace start1
open Jvm.ClassFile
def u (s : String) : CpInfo := .utf8 (stringToUtf16 s)
/-- a pool by its gaps: so many unusable entries, then the entry; so many at the end -/
def gap : Nat → List CpInfo → List CpInfo
  | 0, r => r
  | n + 1, r => .unusable :: gap n r
def poolList (es : List (Nat × CpInfo)) (last : Nat) : List CpInfo := es.foldr (fun e r => gap e.1 (e.2 :: r)) (gap last [])
def pool (es : List (Nat × CpInfo)) (last : Nat) : Array CpInfo := ⟨poolList es last⟩
def fileOf (pool : Array CpInfo) (this : Nat) (attrs : Array Attribute := #[]) (ms : Array MethodInfo := #[]) (fl : Nat := 33) (sup : Nat := 0) (ifs : Array Nat := #[]) (fds : Array FieldInfo := #[]) : ClassFile where
  minorVersion := 0
  majorVersion := 65
  constantPool := pool
  accessFlags := fl
  thisClass := this
  superClass := sup
  interfaces := ifs
  fields := fds
  methods := ms
  attributes := attrs
def plain (name : String) (sup : Option ClassId) : Class where
  name := name
  kind := .ordinary
  loader := none
  accessFlags := 33
  super := sup
  interfaces := #[]
  cf := none
  fields := #[]
  methods := #[]
  instanceTypes := #[]
  staticTypes := #[]
  resolved := #[]
  callSites := []
  init := .initialized
  statics := none
  mirror := none

def pool0 : Array CpInfo := pool [(5, u "<init>"), (0, u "()V"), (1, .class_ 10), (1, u "java/lang/Object"), (85, u "clone"), (0, u "()Ljava/lang/Object;")] 26

def k0c0 : Code := { maxStack := 0, maxLocals := 1, code := object_method_1_code, exceptionTable := #[], attributes := #[] }
def k0m0 : Method := { name := "<init>", desc := "()V", sig := { parameters := [], returnType := none }, accessFlags := 1, code := some k0c0 }
def k0m1 : Method := { name := "clone", desc := "()Ljava/lang/Object;", sig := { parameters := [], returnType := some (.object "java/lang/Object") }, accessFlags := 260, code := none }
/-- java/lang/Object -/
def k0 : Class := { plain "java/lang/Object" none with
  accessFlags := 33
  interfaces := #[]
  cf := some (fileOf pool0 8 #[] #[{ accessFlags := 1, nameIndex := 5, descriptorIndex := 6, attributes := #[] }, { accessFlags := 260, nameIndex := 96, descriptorIndex := 97, attributes := #[] }] 33 0 #[] #[])
  fields := #[]
  methods := #[k0m0, k0m1]
  instanceTypes := #[]
  staticTypes := #[]
  resolved := Array.replicate 124 none
  statics := none }

def pool1 : Array CpInfo := pool [(2, .class_ 4), (1, u "java/lang/Object"), (0, u "<init>"), (0, u "()V"), (0, .methodref 8 9), (0, .class_ 10), (0, .nameAndType 11 12), (0, u "com/example/varuna/varuna/Rational"), (0, u "of"), (0, u "(J)Lcom/example/varuna/varuna/Rational;"), (0, .methodref 8 14), (0, .nameAndType 11 15), (0, u "(JJ)Lcom/example/varuna/varuna/Rational;"), (0, .methodref 8 17), (0, .nameAndType 18 19), (0, u "equals"), (0, u "(Ljava/lang/Object;)Z"), (0, .methodref 8 21), (0, .nameAndType 22 23), (0, u "compareTo"), (0, u "(Lcom/example/varuna/varuna/Rational;)I"), (0, .methodref 8 25), (0, .nameAndType 26 27), (0, u "signum"), (0, u "()I"), (0, .class_ 29), (0, u "com/example/varuna/varuna/RationalOfPinLaw"), (2, u "law"), (0, u "(JJ)Z")] 3

def k1m0 : Method := { name := "<init>", desc := "()V", sig := { parameters := [], returnType := none }, accessFlags := 1, code := none }
def k1c1 : Code := { maxStack := 5, maxLocals := 13, code := code, exceptionTable := #[], attributes := #[] }
def k1m1 : Method := { name := "law", desc := "(JJ)Z", sig := { parameters := [.long, .long], returnType := some .boolean }, accessFlags := 9, code := some k1c1 }
/-- com/example/varuna/varuna/RationalOfPinLaw -/
def k1 : Class := { plain "com/example/varuna/varuna/RationalOfPinLaw" (some 0) with
  accessFlags := 49
  interfaces := #[]
  cf := some (fileOf pool1 28 #[] #[{ accessFlags := 1, nameIndex := 5, descriptorIndex := 6, attributes := #[] }, { accessFlags := 9, nameIndex := 32, descriptorIndex := 33, attributes := #[] }] 49 2 #[] #[])
  fields := #[]
  methods := #[k1m0, k1m1]
  instanceTypes := #[]
  staticTypes := #[]
  resolved := Array.replicate 37 none
  statics := none }

def pool2 : Array CpInfo := pool [(1, .class_ 2), (0, u "java/lang/Comparable"), (0, .class_ 4), (0, u "java/lang/Object")] 7

/-- java/lang/Comparable -/
def k2 : Class := { plain "java/lang/Comparable" (some 0) with
  accessFlags := 1537
  interfaces := #[]
  cf := some (fileOf pool2 1 #[] #[] 1537 3 #[] #[])
  fields := #[]
  methods := #[]
  instanceTypes := #[]
  staticTypes := #[]
  resolved := Array.replicate 12 none
  statics := none }

def pool3 : Array CpInfo := pool [(1, .methodref 2 3), (0, .class_ 4), (0, .nameAndType 5 6), (0, u "java/lang/Object"), (0, u "<init>"), (0, u "()V"), (0, .fieldref 8 9), (0, .class_ 10), (0, .nameAndType 11 12), (0, u "com/example/varuna/varuna/Rational"), (0, u "numerator"), (0, u "Ljava/math/BigInteger;"), (0, .fieldref 8 14), (0, .nameAndType 15 12), (0, u "denominator"), (0, .methodref 17 18), (0, .class_ 19), (0, .nameAndType 20 21), (0, u "java/math/BigInteger"), (0, u "valueOf"), (0, u "(J)Ljava/math/BigInteger;"), (0, .fieldref 17 23), (0, .nameAndType 24 12), (0, u "ONE"), (0, .methodref 8 26), (0, .nameAndType 5 27), (0, u "(Ljava/math/BigInteger;Ljava/math/BigInteger;)V"), (0, .methodref 8 29), (0, .nameAndType 30 31), (0, u "of"), (0, u "(Ljava/math/BigInteger;Ljava/math/BigInteger;)Lcom/example/varuna/varuna/Rational;"), (0, .methodref 17 33), (0, .nameAndType 34 35), (0, u "signum"), (0, u "()I"), (14, .methodref 17 51), (0, .nameAndType 52 53), (0, u "gcd"), (0, u "(Ljava/math/BigInteger;)Ljava/math/BigInteger;"), (4, .methodref 17 59), (0, .nameAndType 60 53), (0, u "divide"), (28, .methodref 17 90), (0, .nameAndType 91 53), (0, u "multiply"), (42, u "FRACTION"), (0, u "Ljava/util/regex/Pattern;"), (29, u "DECIMAL"), (18, u "compareTo"), (0, u "(Lcom/example/varuna/varuna/Rational;)I"), (29, u "(JJ)Lcom/example/varuna/varuna/Rational;"), (4, u "(J)Lcom/example/varuna/varuna/Rational;"), (6, u "Lcom/example/varuna/varuna/Rational;"), (13, .methodref 17 242), (0, .nameAndType 184 243), (0, u "(Ljava/math/BigInteger;)I"), (0, .methodref 17 245), (0, .nameAndType 246 247), (0, u "equals"), (0, u "(Ljava/lang/Object;)Z"), (12, u "ZERO"), (10, .class_ 272), (0, u "java/lang/Comparable"), (0, u "MAX_DECIMAL_EXPONENT"), (0, u "I"), (2, u "DOUBLE_DIGITS"), (1, u "ZERO_DENOMINATOR"), (0, u "Ljava/lang/String;")] 47

def k3c0 : Code := { maxStack := 2, maxLocals := 3, code := prog_5_method_1_code, exceptionTable := #[], attributes := #[] }
def k3m0 : Method := { name := "<init>", desc := "(Ljava/math/BigInteger;Ljava/math/BigInteger;)V", sig := { parameters := [(.object "java/math/BigInteger"), (.object "java/math/BigInteger")], returnType := none }, accessFlags := 2, code := some k3c0 }
def k3c1 : Code := { maxStack := 4, maxLocals := 2, code := prog_5_method_2_code, exceptionTable := #[], attributes := #[] }
def k3m1 : Method := { name := "of", desc := "(J)Lcom/example/varuna/varuna/Rational;", sig := { parameters := [.long], returnType := some (.object "com/example/varuna/varuna/Rational") }, accessFlags := 9, code := some k3c1 }
def k3c2 : Code := { maxStack := 3, maxLocals := 4, code := prog_5_method_3_code, exceptionTable := #[], attributes := #[] }
def k3m2 : Method := { name := "of", desc := "(JJ)Lcom/example/varuna/varuna/Rational;", sig := { parameters := [.long, .long], returnType := some (.object "com/example/varuna/varuna/Rational") }, accessFlags := 9, code := some k3c2 }
def k3c3 : Code := { maxStack := 5, maxLocals := 3, code := prog_5_method_4_code, exceptionTable := #[], attributes := #[] }
def k3m3 : Method := { name := "of", desc := "(Ljava/math/BigInteger;Ljava/math/BigInteger;)Lcom/example/varuna/varuna/Rational;", sig := { parameters := [(.object "java/math/BigInteger"), (.object "java/math/BigInteger")], returnType := some (.object "com/example/varuna/varuna/Rational") }, accessFlags := 9, code := some k3c3 }
def k3c4 : Code := { maxStack := 1, maxLocals := 1, code := prog_5_method_11_code, exceptionTable := #[], attributes := #[] }
def k3m4 : Method := { name := "signum", desc := "()I", sig := { parameters := [], returnType := some .int }, accessFlags := 1, code := some k3c4 }
def k3c5 : Code := { maxStack := 3, maxLocals := 2, code := prog_5_method_22_code, exceptionTable := #[], attributes := #[] }
def k3m5 : Method := { name := "compareTo", desc := "(Lcom/example/varuna/varuna/Rational;)I", sig := { parameters := [(.object "com/example/varuna/varuna/Rational")], returnType := some .int }, accessFlags := 1, code := some k3c5 }
def k3c6 : Code := { maxStack := 2, maxLocals := 2, code := prog_5_method_23_code, exceptionTable := #[], attributes := #[] }
def k3m6 : Method := { name := "equals", desc := "(Ljava/lang/Object;)Z", sig := { parameters := [(.object "java/lang/Object")], returnType := some .boolean }, accessFlags := 1, code := some k3c6 }
/-- com/example/varuna/varuna/Rational -/
def k3 : Class := { plain "com/example/varuna/varuna/Rational" (some 0) with
  accessFlags := 33
  interfaces := #[2]
  cf := some (fileOf pool3 8 #[] #[{ accessFlags := 2, nameIndex := 5, descriptorIndex := 27, attributes := #[] }, { accessFlags := 9, nameIndex := 30, descriptorIndex := 220, attributes := #[] }, { accessFlags := 9, nameIndex := 30, descriptorIndex := 215, attributes := #[] }, { accessFlags := 9, nameIndex := 30, descriptorIndex := 31, attributes := #[] }, { accessFlags := 1, nameIndex := 34, descriptorIndex := 35, attributes := #[] }, { accessFlags := 1, nameIndex := 184, descriptorIndex := 185, attributes := #[] }, { accessFlags := 1, nameIndex := 246, descriptorIndex := 247, attributes := #[] }] 33 2 #[271] #[{ accessFlags := 25, nameIndex := 260, descriptorIndex := 227, attributes := #[] }, { accessFlags := 25, nameIndex := 24, descriptorIndex := 227, attributes := #[] }, { accessFlags := 25, nameIndex := 273, descriptorIndex := 274, attributes := #[] }, { accessFlags := 26, nameIndex := 277, descriptorIndex := 274, attributes := #[] }, { accessFlags := 26, nameIndex := 279, descriptorIndex := 280, attributes := #[] }, { accessFlags := 26, nameIndex := 134, descriptorIndex := 135, attributes := #[] }, { accessFlags := 26, nameIndex := 165, descriptorIndex := 135, attributes := #[] }, { accessFlags := 18, nameIndex := 11, descriptorIndex := 12, attributes := #[] }, { accessFlags := 18, nameIndex := 15, descriptorIndex := 12, attributes := #[] }])
  fields := #[{ name := "ZERO", type := (.object "com/example/varuna/varuna/Rational"), accessFlags := 25, slot := 0, constantValue := 0 }, { name := "ONE", type := (.object "com/example/varuna/varuna/Rational"), accessFlags := 25, slot := 1, constantValue := 0 }, { name := "MAX_DECIMAL_EXPONENT", type := .int, accessFlags := 25, slot := 2, constantValue := 0 }, { name := "DOUBLE_DIGITS", type := .int, accessFlags := 26, slot := 3, constantValue := 0 }, { name := "ZERO_DENOMINATOR", type := (.object "java/lang/String"), accessFlags := 26, slot := 4, constantValue := 0 }, { name := "FRACTION", type := (.object "java/util/regex/Pattern"), accessFlags := 26, slot := 5, constantValue := 0 }, { name := "DECIMAL", type := (.object "java/util/regex/Pattern"), accessFlags := 26, slot := 6, constantValue := 0 }, { name := "numerator", type := (.object "java/math/BigInteger"), accessFlags := 18, slot := 0, constantValue := 0 }, { name := "denominator", type := (.object "java/math/BigInteger"), accessFlags := 18, slot := 1, constantValue := 0 }]
  methods := #[k3m0, k3m1, k3m2, k3m3, k3m4, k3m5, k3m6]
  instanceTypes := #[(.object "java/math/BigInteger"), (.object "java/math/BigInteger")]
  staticTypes := #[(.object "com/example/varuna/varuna/Rational"), (.object "com/example/varuna/varuna/Rational"), .int, .int, (.object "java/lang/String"), (.object "java/util/regex/Pattern"), (.object "java/util/regex/Pattern")]
  resolved := Array.replicate 328 none
  statics := none }

def pool4 : Array CpInfo := pool [(1, .class_ 2), (0, u "java/io/Serializable"), (0, .class_ 4), (0, u "java/lang/Object")] 2

/-- java/io/Serializable -/
def k4 : Class := { plain "java/io/Serializable" (some 0) with
  accessFlags := 1537
  interfaces := #[]
  cf := some (fileOf pool4 1 #[] #[] 1537 3 #[] #[])
  fields := #[]
  methods := #[]
  instanceTypes := #[]
  staticTypes := #[]
  resolved := Array.replicate 7 none
  statics := none }

def pool5 : Array CpInfo := pool [(1, .methodref 2 3), (0, .class_ 4), (0, .nameAndType 5 6), (0, u "java/lang/Object"), (0, u "<init>"), (0, u "()V"), (1, .class_ 10), (1, u "java/lang/Number"), (2, .class_ 14), (0, u "java/io/Serializable"), (0, u "serialVersionUID"), (0, u "J")] 20

def k5c0 : Code := { maxStack := 1, maxLocals := 1, code := jdk_18_method_1_code, exceptionTable := #[], attributes := #[] }
def k5m0 : Method := { name := "<init>", desc := "()V", sig := { parameters := [], returnType := none }, accessFlags := 1, code := some k5c0 }
/-- java/lang/Number -/
def k5 : Class := { plain "java/lang/Number" (some 0) with
  accessFlags := 1057
  interfaces := #[4]
  cf := some (fileOf pool5 8 #[] #[{ accessFlags := 1, nameIndex := 5, descriptorIndex := 6, attributes := #[] }] 1057 2 #[13] #[{ accessFlags := 26, nameIndex := 15, descriptorIndex := 16, attributes := #[] }])
  fields := #[{ name := "serialVersionUID", type := .long, accessFlags := 26, slot := 0, constantValue := 0 }]
  methods := #[k5m0]
  instanceTypes := #[]
  staticTypes := #[.long]
  resolved := Array.replicate 37 none
  statics := none }

def pool6 : Array CpInfo := pool [(1, .class_ 2), (0, u "java/lang/Integer"), (0, .methodref 4 5), (0, .class_ 6), (0, .nameAndType 7 8), (0, u "java/lang/Number"), (0, u "<init>"), (0, u "()V"), (13, .fieldref 23 24), (0, .class_ 25), (0, .nameAndType 26 27), (0, u "java/math/BigInteger"), (0, u "ZERO"), (0, u "Ljava/math/BigInteger;"), (0, .fieldref 23 29), (0, .nameAndType 30 31), (0, u "mag"), (0, u "[I"), (0, .fieldref 23 33), (0, .nameAndType 34 35), (0, u "signum"), (0, u "I"), (7, .integer 67108864), (30, u "()I"), (7, u "(I)I"), (12, u "bitsPerDigit"), (0, u "[J"), (9, u "digitsPerInt"), (12, u "intRadix"), (10, .long 4294967295), (44, .methodref 23 176), (0, .nameAndType 7 177), (0, u "([II)V"), (2, u "SMALL_PRIME_PRODUCT"), (3, u "(Ljava/math/BigInteger;)Ljava/math/BigInteger;"), (34, u "(I)Ljava/math/BigInteger;"), (17, u "valueOf"), (0, u "(J)Ljava/math/BigInteger;"), (21, u "ONE"), (2, u "equals"), (0, u "(Ljava/lang/Object;)Z"), (2, u "TWO"), (30, u "abs"), (12, u "$assertionsDisabled"), (0, u "Z"), (5, u "multiply"), (3, u "()Ljava/math/BigInteger;"), (14, u "compareTo"), (0, u "(Ljava/math/BigInteger;)I"), (6, .long 16), (1, .fieldref 23 348), (0, .nameAndType 349 350), (0, u "posConst"), (0, u "[Ljava/math/BigInteger;"), (0, .long 18446744073709551600), (1, .fieldref 23 354), (0, .nameAndType 355 350), (0, u "negConst"), (0, .methodref 23 357), (0, .nameAndType 7 358), (0, u "(J)V"), (1, .nameAndType 7 361), (0, u "([I)V"), (3, .methodref 23 366), (0, .nameAndType 367 338), (0, u "compareMagnitude"), (20, .methodref 389 390), (0, .class_ 391), (0, .nameAndType 392 393), (0, u "java/lang/System"), (0, u "arraycopy"), (0, u "(Ljava/lang/Object;ILjava/lang/Object;II)V"), (3, .methodref 23 398), (0, .nameAndType 318 399), (0, u "(Ljava/math/BigInteger;ZZI)Ljava/math/BigInteger;"), (3, .methodref 23 404), (0, .nameAndType 405 406), (0, u "multiplyByInt"), (0, u "([III)Ljava/math/BigInteger;"), (16, .methodref 1 424), (0, .nameAndType 425 82), (0, u "bitCount"), (0, .methodref 1 427), (0, .nameAndType 428 82), (0, u "numberOfTrailingZeros"), (0, .methodref 23 430), (0, .nameAndType 431 432), (0, u "shiftLeft"), (0, u "([II)[I"), (39, .class_ 474), (1, u "java/math/BigInteger$RecursiveOp"), (10, .methodref 23 486), (0, .nameAndType 298 322), (48, .methodref 23 536), (0, .nameAndType 537 184), (0, u "divideKnuth"), (3, .class_ 542), (0, u "java/math/MutableBigInteger"), (0, .methodref 541 5), (0, .methodref 541 360), (0, .methodref 541 546), (0, .nameAndType 537 547), (0, u "(Ljava/math/MutableBigInteger;Ljava/math/MutableBigInteger;Z)Ljava/math/MutableBigInteger;"), (0, .methodref 541 549), (0, .nameAndType 550 219), (0, u "toBigInteger"), (16, .methodref 541 568), (0, .nameAndType 7 569), (0, u "(Ljava/math/BigInteger;)V"), (11, u "NEGATIVE_ONE"), (16, .methodref 541 599), (0, .nameAndType 600 601), (0, u "hybridGCD"), (0, u "(Ljava/math/MutableBigInteger;)Ljava/math/MutableBigInteger;"), (0, .methodref 1 603), (0, .nameAndType 604 82), (0, u "numberOfLeadingZeros"), (2, u "bitLengthForInt"), (34, u "divide"), (30, u "bnExpModThreshTable"), (72, u "lowestSetBitPlusTwo"), (2, u "bitLengthPlusOne"), (2, u "bitCountPlusOne"), (6, u "LOG_TWO"), (0, u "D"), (2, u "logCache"), (0, u "[D"), (13, u "NUM_ZEROS"), (2, u "ZEROS"), (0, u "Ljava/lang/String;"), (9, u "longRadix"), (5, u "digitsPerLong"), (22, u "powerCache"), (0, u "[[Ljava/math/BigInteger;"), (45, u "firstNonzeroIntNumPlusTwo"), (38, .class_ 909), (1, u "java/math/BigInteger$UnsafeHolder"), (141, u "TEN"), (106, u "serialPersistentFields"), (0, u "[Ljava/io/ObjectStreamField;"), (0, .class_ 1161), (0, u "java/lang/Comparable"), (0, u "LONG_MASK"), (0, u "J"), (1, u "MAX_MAG_LENGTH"), (0, u "PRIME_SEARCH_BIT_LENGTH_LIMIT"), (1, u "KARATSUBA_THRESHOLD"), (1, u "TOOM_COOK_THRESHOLD"), (1, u "KARATSUBA_SQUARE_THRESHOLD"), (1, u "TOOM_COOK_SQUARE_THRESHOLD"), (1, u "BURNIKEL_ZIEGLER_THRESHOLD"), (0, u "BURNIKEL_ZIEGLER_OFFSET"), (1, u "SCHOENHAGE_BASE_CONVERSION_THRESHOLD"), (1, u "MULTIPLY_SQUARE_THRESHOLD"), (0, u "MONTGOMERY_INTRINSIC_THRESHOLD"), (1, u "SMALL_PRIME_THRESHOLD"), (1, u "DEFAULT_PRIME_CERTAINTY"), (1, u "MAX_CONSTANT"), (3, u "serialVersionUID"), (186, u "gcd"), (151, .class_ 1532), (0, u "java/math/BigInteger$RecursiveOp$RecursiveSquare"), (0, .class_ 1534), (0, u "java/math/BigInteger$RecursiveOp$RecursiveMultiply")] 7

def k6c0 : Code := { maxStack := 2, maxLocals := 3, code := jdk_2097_method_25_code, exceptionTable := #[], attributes := #[] }
def k6m0 : Method := { name := "<init>", desc := "([II)V", sig := { parameters := [(.array .int), .int], returnType := none }, accessFlags := 0, code := some k6c0 }
def k6c1 : Code := { maxStack := 4, maxLocals := 2, code := jdk_2097_method_29_code, exceptionTable := #[], attributes := #[] }
def k6m1 : Method := { name := "valueOf", desc := "(J)Ljava/math/BigInteger;", sig := { parameters := [.long], returnType := some (.object "java/math/BigInteger") }, accessFlags := 9, code := some k6c1 }
def k6c2 : Code := { maxStack := 4, maxLocals := 4, code := jdk_2097_method_30_code, exceptionTable := #[], attributes := #[] }
def k6m2 : Method := { name := "<init>", desc := "(J)V", sig := { parameters := [.long], returnType := none }, accessFlags := 2, code := some k6c2 }
def k6c3 : Code := { maxStack := 5, maxLocals := 2, code := jdk_2097_method_40_code, exceptionTable := #[], attributes := #[] }
def k6m3 : Method := { name := "multiply", desc := "(Ljava/math/BigInteger;)Ljava/math/BigInteger;", sig := { parameters := [(.object "java/math/BigInteger")], returnType := some (.object "java/math/BigInteger") }, accessFlags := 1, code := some k6c3 }
def k6c4 : Code := { maxStack := 5, maxLocals := 9, code := jdk_2097_method_42_code, exceptionTable := #[], attributes := #[] }
def k6m4 : Method := { name := "multiply", desc := "(Ljava/math/BigInteger;ZZI)Ljava/math/BigInteger;", sig := { parameters := [(.object "java/math/BigInteger"), .boolean, .boolean, .int], returnType := some (.object "java/math/BigInteger") }, accessFlags := 2, code := some k6c4 }
def k6c5 : Code := { maxStack := 4, maxLocals := 13, code := jdk_2097_method_43_code, exceptionTable := #[], attributes := #[] }
def k6m5 : Method := { name := "multiplyByInt", desc := "([III)Ljava/math/BigInteger;", sig := { parameters := [(.array .int), .int, .int], returnType := some (.object "java/math/BigInteger") }, accessFlags := 10, code := some k6c5 }
def k6c6 : Code := { maxStack := 2, maxLocals := 2, code := jdk_2097_method_61_code, exceptionTable := #[], attributes := #[] }
def k6m6 : Method := { name := "divide", desc := "(Ljava/math/BigInteger;)Ljava/math/BigInteger;", sig := { parameters := [(.object "java/math/BigInteger")], returnType := some (.object "java/math/BigInteger") }, accessFlags := 1, code := some k6c6 }
def k6c7 : Code := { maxStack := 4, maxLocals := 5, code := jdk_2097_method_62_code, exceptionTable := #[], attributes := #[] }
def k6m7 : Method := { name := "divideKnuth", desc := "(Ljava/math/BigInteger;)Ljava/math/BigInteger;", sig := { parameters := [(.object "java/math/BigInteger")], returnType := some (.object "java/math/BigInteger") }, accessFlags := 2, code := some k6c7 }
def k6c8 : Code := { maxStack := 3, maxLocals := 5, code := jdk_2097_method_73_code, exceptionTable := #[], attributes := #[] }
def k6m8 : Method := { name := "gcd", desc := "(Ljava/math/BigInteger;)Ljava/math/BigInteger;", sig := { parameters := [(.object "java/math/BigInteger")], returnType := some (.object "java/math/BigInteger") }, accessFlags := 1, code := some k6c8 }
def k6c9 : Code := { maxStack := 2, maxLocals := 1, code := jdk_2097_method_74_code, exceptionTable := #[], attributes := #[] }
def k6m9 : Method := { name := "bitLengthForInt", desc := "(I)I", sig := { parameters := [.int], returnType := some .int }, accessFlags := 8, code := some k6c9 }
def k6c10 : Code := { maxStack := 1, maxLocals := 1, code := jdk_2097_method_79_code, exceptionTable := #[], attributes := #[] }
def k6m10 : Method := { name := "abs", desc := "()Ljava/math/BigInteger;", sig := { parameters := [], returnType := some (.object "java/math/BigInteger") }, accessFlags := 1, code := some k6c10 }
def k6c11 : Code := { maxStack := 1, maxLocals := 1, code := jdk_2097_method_81_code, exceptionTable := #[], attributes := #[] }
def k6m11 : Method := { name := "signum", desc := "()I", sig := { parameters := [], returnType := some .int }, accessFlags := 1, code := some k6c11 }
def k6c12 : Code := { maxStack := 5, maxLocals := 10, code := jdk_2097_method_102_code, exceptionTable := #[], attributes := #[] }
def k6m12 : Method := { name := "shiftLeft", desc := "([II)[I", sig := { parameters := [(.array .int), .int], returnType := some (.array .int) }, accessFlags := 10, code := some k6c12 }
def k6c13 : Code := { maxStack := 2, maxLocals := 2, code := jdk_2097_method_121_code, exceptionTable := #[], attributes := #[] }
def k6m13 : Method := { name := "compareTo", desc := "(Ljava/math/BigInteger;)I", sig := { parameters := [(.object "java/math/BigInteger")], returnType := some .int }, accessFlags := 1, code := some k6c13 }
def k6c14 : Code := { maxStack := 6, maxLocals := 9, code := jdk_2097_method_122_code, exceptionTable := #[], attributes := #[] }
def k6m14 : Method := { name := "compareMagnitude", desc := "(Ljava/math/BigInteger;)I", sig := { parameters := [(.object "java/math/BigInteger")], returnType := some .int }, accessFlags := 16, code := some k6c14 }
def k6c15 : Code := { maxStack := 3, maxLocals := 7, code := jdk_2097_method_124_code, exceptionTable := #[], attributes := #[] }
def k6m15 : Method := { name := "equals", desc := "(Ljava/lang/Object;)Z", sig := { parameters := [(.object "java/lang/Object")], returnType := some .boolean }, accessFlags := 1, code := some k6c15 }
/-- java/math/BigInteger -/
def k6 : Class := { plain "java/math/BigInteger" (some 5) with
  accessFlags := 33
  interfaces := #[2]
  cf := some (fileOf pool6 23 #[.nestMembers #[907, 472, 1531, 1533]] #[{ accessFlags := 0, nameIndex := 7, descriptorIndex := 177, attributes := #[] }, { accessFlags := 9, nameIndex := 237, descriptorIndex := 238, attributes := #[] }, { accessFlags := 2, nameIndex := 7, descriptorIndex := 358, attributes := #[] }, { accessFlags := 1, nameIndex := 318, descriptorIndex := 184, attributes := #[] }, { accessFlags := 2, nameIndex := 318, descriptorIndex := 399, attributes := #[] }, { accessFlags := 10, nameIndex := 405, descriptorIndex := 406, attributes := #[] }, { accessFlags := 1, nameIndex := 642, descriptorIndex := 184, attributes := #[] }, { accessFlags := 2, nameIndex := 537, descriptorIndex := 184, attributes := #[] }, { accessFlags := 1, nameIndex := 1379, descriptorIndex := 184, attributes := #[] }, { accessFlags := 8, nameIndex := 607, descriptorIndex := 82, attributes := #[] }, { accessFlags := 1, nameIndex := 298, descriptorIndex := 322, attributes := #[] }, { accessFlags := 1, nameIndex := 34, descriptorIndex := 74, attributes := #[] }, { accessFlags := 10, nameIndex := 431, descriptorIndex := 432, attributes := #[] }, { accessFlags := 1, nameIndex := 337, descriptorIndex := 338, attributes := #[] }, { accessFlags := 16, nameIndex := 367, descriptorIndex := 338, attributes := #[] }, { accessFlags := 1, nameIndex := 263, descriptorIndex := 264, attributes := #[] }] 33 4 #[1160] #[{ accessFlags := 16, nameIndex := 34, descriptorIndex := 35, attributes := #[] }, { accessFlags := 16, nameIndex := 30, descriptorIndex := 31, attributes := #[] }, { accessFlags := 2, nameIndex := 752, descriptorIndex := 35, attributes := #[] }, { accessFlags := 2, nameIndex := 749, descriptorIndex := 35, attributes := #[] }, { accessFlags := 2, nameIndex := 746, descriptorIndex := 35, attributes := #[] }, { accessFlags := 2, nameIndex := 868, descriptorIndex := 35, attributes := #[] }, { accessFlags := 24, nameIndex := 1162, descriptorIndex := 1163, attributes := #[] }, { accessFlags := 26, nameIndex := 1165, descriptorIndex := 35, attributes := #[] }, { accessFlags := 26, nameIndex := 1166, descriptorIndex := 35, attributes := #[] }, { accessFlags := 26, nameIndex := 1168, descriptorIndex := 35, attributes := #[] }, { accessFlags := 26, nameIndex := 1170, descriptorIndex := 35, attributes := #[] }, { accessFlags := 26, nameIndex := 1172, descriptorIndex := 35, attributes := #[] }, { accessFlags := 26, nameIndex := 1174, descriptorIndex := 35, attributes := #[] }, { accessFlags := 24, nameIndex := 1176, descriptorIndex := 35, attributes := #[] }, { accessFlags := 24, nameIndex := 1177, descriptorIndex := 35, attributes := #[] }, { accessFlags := 26, nameIndex := 1179, descriptorIndex := 35, attributes := #[] }, { accessFlags := 26, nameIndex := 1181, descriptorIndex := 35, attributes := #[] }, { accessFlags := 26, nameIndex := 1182, descriptorIndex := 35, attributes := #[] }, { accessFlags := 10, nameIndex := 95, descriptorIndex := 96, attributes := #[] }, { accessFlags := 26, nameIndex := 1184, descriptorIndex := 35, attributes := #[] }, { accessFlags := 26, nameIndex := 1186, descriptorIndex := 35, attributes := #[] }, { accessFlags := 26, nameIndex := 180, descriptorIndex := 27, attributes := #[] }, { accessFlags := 26, nameIndex := 1188, descriptorIndex := 35, attributes := #[] }, { accessFlags := 26, nameIndex := 349, descriptorIndex := 350, attributes := #[] }, { accessFlags := 26, nameIndex := 355, descriptorIndex := 350, attributes := #[] }, { accessFlags := 74, nameIndex := 821, descriptorIndex := 822, attributes := #[] }, { accessFlags := 26, nameIndex := 763, descriptorIndex := 764, attributes := #[] }, { accessFlags := 26, nameIndex := 759, descriptorIndex := 760, attributes := #[] }, { accessFlags := 25, nameIndex := 26, descriptorIndex := 27, attributes := #[] }, { accessFlags := 25, nameIndex := 260, descriptorIndex := 27, attributes := #[] }, { accessFlags := 25, nameIndex := 267, descriptorIndex := 27, attributes := #[] }, { accessFlags := 26, nameIndex := 581, descriptorIndex := 27, attributes := #[] }, { accessFlags := 25, nameIndex := 1051, descriptorIndex := 27, attributes := #[] }, { accessFlags := 8, nameIndex := 673, descriptorIndex := 31, attributes := #[] }, { accessFlags := 10, nameIndex := 778, descriptorIndex := 35, attributes := #[] }, { accessFlags := 26, nameIndex := 781, descriptorIndex := 782, attributes := #[] }, { accessFlags := 10, nameIndex := 798, descriptorIndex := 31, attributes := #[] }, { accessFlags := 10, nameIndex := 792, descriptorIndex := 350, attributes := #[] }, { accessFlags := 10, nameIndex := 106, descriptorIndex := 31, attributes := #[] }, { accessFlags := 10, nameIndex := 119, descriptorIndex := 31, attributes := #[] }, { accessFlags := 26, nameIndex := 1192, descriptorIndex := 1163, attributes := #[] }, { accessFlags := 26, nameIndex := 1158, descriptorIndex := 1159, attributes := #[] }, { accessFlags := 4120, nameIndex := 311, descriptorIndex := 312, attributes := #[] }])
  fields := #[{ name := "signum", type := .int, accessFlags := 16, slot := 0, constantValue := 0 }, { name := "mag", type := (.array .int), accessFlags := 16, slot := 1, constantValue := 0 }, { name := "bitCountPlusOne", type := .int, accessFlags := 2, slot := 2, constantValue := 0 }, { name := "bitLengthPlusOne", type := .int, accessFlags := 2, slot := 3, constantValue := 0 }, { name := "lowestSetBitPlusTwo", type := .int, accessFlags := 2, slot := 4, constantValue := 0 }, { name := "firstNonzeroIntNumPlusTwo", type := .int, accessFlags := 2, slot := 5, constantValue := 0 }, { name := "LONG_MASK", type := .long, accessFlags := 24, slot := 0, constantValue := 0 }, { name := "MAX_MAG_LENGTH", type := .int, accessFlags := 26, slot := 1, constantValue := 0 }, { name := "PRIME_SEARCH_BIT_LENGTH_LIMIT", type := .int, accessFlags := 26, slot := 2, constantValue := 0 }, { name := "KARATSUBA_THRESHOLD", type := .int, accessFlags := 26, slot := 3, constantValue := 0 }, { name := "TOOM_COOK_THRESHOLD", type := .int, accessFlags := 26, slot := 4, constantValue := 0 }, { name := "KARATSUBA_SQUARE_THRESHOLD", type := .int, accessFlags := 26, slot := 5, constantValue := 0 }, { name := "TOOM_COOK_SQUARE_THRESHOLD", type := .int, accessFlags := 26, slot := 6, constantValue := 0 }, { name := "BURNIKEL_ZIEGLER_THRESHOLD", type := .int, accessFlags := 24, slot := 7, constantValue := 0 }, { name := "BURNIKEL_ZIEGLER_OFFSET", type := .int, accessFlags := 24, slot := 8, constantValue := 0 }, { name := "SCHOENHAGE_BASE_CONVERSION_THRESHOLD", type := .int, accessFlags := 26, slot := 9, constantValue := 0 }, { name := "MULTIPLY_SQUARE_THRESHOLD", type := .int, accessFlags := 26, slot := 10, constantValue := 0 }, { name := "MONTGOMERY_INTRINSIC_THRESHOLD", type := .int, accessFlags := 26, slot := 11, constantValue := 0 }, { name := "bitsPerDigit", type := (.array .long), accessFlags := 10, slot := 12, constantValue := 0 }, { name := "SMALL_PRIME_THRESHOLD", type := .int, accessFlags := 26, slot := 13, constantValue := 0 }, { name := "DEFAULT_PRIME_CERTAINTY", type := .int, accessFlags := 26, slot := 14, constantValue := 0 }, { name := "SMALL_PRIME_PRODUCT", type := (.object "java/math/BigInteger"), accessFlags := 26, slot := 15, constantValue := 0 }, { name := "MAX_CONSTANT", type := .int, accessFlags := 26, slot := 16, constantValue := 0 }, { name := "posConst", type := (.array (.object "java/math/BigInteger")), accessFlags := 26, slot := 17, constantValue := 0 }, { name := "negConst", type := (.array (.object "java/math/BigInteger")), accessFlags := 26, slot := 18, constantValue := 0 }, { name := "powerCache", type := (.array (.array (.object "java/math/BigInteger"))), accessFlags := 74, slot := 19, constantValue := 0 }, { name := "logCache", type := (.array .double), accessFlags := 26, slot := 20, constantValue := 0 }, { name := "LOG_TWO", type := .double, accessFlags := 26, slot := 21, constantValue := 0 }, { name := "ZERO", type := (.object "java/math/BigInteger"), accessFlags := 25, slot := 22, constantValue := 0 }, { name := "ONE", type := (.object "java/math/BigInteger"), accessFlags := 25, slot := 23, constantValue := 0 }, { name := "TWO", type := (.object "java/math/BigInteger"), accessFlags := 25, slot := 24, constantValue := 0 }, { name := "NEGATIVE_ONE", type := (.object "java/math/BigInteger"), accessFlags := 26, slot := 25, constantValue := 0 }, { name := "TEN", type := (.object "java/math/BigInteger"), accessFlags := 25, slot := 26, constantValue := 0 }, { name := "bnExpModThreshTable", type := (.array .int), accessFlags := 8, slot := 27, constantValue := 0 }, { name := "NUM_ZEROS", type := .int, accessFlags := 10, slot := 28, constantValue := 0 }, { name := "ZEROS", type := (.object "java/lang/String"), accessFlags := 26, slot := 29, constantValue := 0 }, { name := "digitsPerLong", type := (.array .int), accessFlags := 10, slot := 30, constantValue := 0 }, { name := "longRadix", type := (.array (.object "java/math/BigInteger")), accessFlags := 10, slot := 31, constantValue := 0 }, { name := "digitsPerInt", type := (.array .int), accessFlags := 10, slot := 32, constantValue := 0 }, { name := "intRadix", type := (.array .int), accessFlags := 10, slot := 33, constantValue := 0 }, { name := "serialVersionUID", type := .long, accessFlags := 26, slot := 34, constantValue := 0 }, { name := "serialPersistentFields", type := (.array (.object "java/io/ObjectStreamField")), accessFlags := 26, slot := 35, constantValue := 0 }, { name := "$assertionsDisabled", type := .boolean, accessFlags := 4120, slot := 36, constantValue := 0 }]
  methods := #[k6m0, k6m1, k6m2, k6m3, k6m4, k6m5, k6m6, k6m7, k6m8, k6m9, k6m10, k6m11, k6m12, k6m13, k6m14, k6m15]
  instanceTypes := #[.int, (.array .int), .int, .int, .int, .int]
  staticTypes := #[.long, .int, .int, .int, .int, .int, .int, .int, .int, .int, .int, .int, (.array .long), .int, .int, (.object "java/math/BigInteger"), .int, (.array (.object "java/math/BigInteger")), (.array (.object "java/math/BigInteger")), (.array (.array (.object "java/math/BigInteger"))), (.array .double), .double, (.object "java/math/BigInteger"), (.object "java/math/BigInteger"), (.object "java/math/BigInteger"), (.object "java/math/BigInteger"), (.object "java/math/BigInteger"), (.array .int), .int, (.object "java/lang/String"), (.array .int), (.array (.object "java/math/BigInteger")), (.array .int), (.array .int), .long, (.array (.object "java/io/ObjectStreamField")), .boolean]
  resolved := Array.replicate 1542 none
  statics := some 0 }

def pool7 : Array CpInfo := pool [(1, .class_ 2), (0, u "java/math/BigInteger"), (2, .methodref 6 7), (0, .class_ 8), (0, .nameAndType 9 10), (0, u "java/lang/Object"), (0, u "<init>"), (0, u "()V"), (0, .fieldref 12 13), (0, .class_ 14), (0, .nameAndType 15 16), (0, u "java/math/MutableBigInteger"), (0, u "offset"), (0, u "I"), (0, .fieldref 12 18), (0, .nameAndType 19 20), (0, u "value"), (0, u "[I"), (0, .fieldref 12 22), (0, .nameAndType 23 16), (0, u "intLen"), (0, .fieldref 1 25), (0, .nameAndType 26 20), (0, u "mag"), (0, .methodref 28 29), (0, .class_ 30), (0, .nameAndType 31 32), (0, u "java/util/Arrays"), (0, u "copyOf"), (0, u "([II)[I"), (7, u "([II)V"), (2, u "$assertionsDisabled"), (0, u "Z"), (7, .long 4294967295), (1, .fieldref 1 55), (0, .nameAndType 56 57), (0, u "ZERO"), (0, u "Ljava/math/BigInteger;"), (0, .methodref 12 59), (0, .nameAndType 60 61), (0, u "getMagnitudeArray"), (0, u "()[I"), (0, .methodref 1 63), (0, .nameAndType 9 40), (0, .methodref 12 65), (0, .nameAndType 66 10), (0, u "normalize"), (6, u "toBigInteger"), (0, u "(I)Ljava/math/BigInteger;"), (13, .integer 2147483648), (0, .methodref 90 91), (0, .class_ 92), (0, .nameAndType 93 94), (0, u "java/lang/Integer"), (0, u "numberOfTrailingZeros"), (0, u "(I)I"), (13, .methodref 12 109), (0, .nameAndType 110 111), (0, u "rightShift"), (0, u "(I)V"), (0, .methodref 1 113), (0, .nameAndType 114 94), (0, u "bitLengthForInt"), (0, .methodref 12 116), (0, .nameAndType 117 111), (0, u "primitiveLeftShift"), (0, .methodref 12 119), (0, .nameAndType 120 111), (0, u "primitiveRightShift"), (10, .class_ 133), (1, u "java/lang/Math"), (1, u "(II)I"), (6, .methodref 12 143), (0, .nameAndType 144 145), (0, u "compare"), (0, u "(Ljava/math/MutableBigInteger;)I"), (3, .methodref 12 150), (0, .nameAndType 151 10), (0, u "clear"), (0, .methodref 90 153), (0, .nameAndType 154 94), (0, u "numberOfLeadingZeros"), (7, u "(Ljava/math/MutableBigInteger;Ljava/math/MutableBigInteger;Z)Ljava/math/MutableBigInteger;"), (2, u "divideKnuth"), (11, .methodref 12 7), (0, .methodref 12 179), (0, .nameAndType 180 181), (0, u "divideOneWord"), (0, u "(ILjava/math/MutableBigInteger;)I"), (2, .methodref 12 185), (0, .nameAndType 186 187), (0, u "getLowestSetBit"), (0, u "()I"), (57, u "(Ljava/math/BigInteger;)V"), (11, u "ONE"), (0, u "Ljava/math/MutableBigInteger;"), (2, u "([I)V"), (67, .methodref 131 330), (0, .nameAndType 331 94), (0, u "abs"), (0, .methodref 12 333), (0, .nameAndType 334 335), (0, u "binaryGCD"), (0, u "(Ljava/math/MutableBigInteger;)Ljava/math/MutableBigInteger;"), (2, .methodref 12 339), (0, .nameAndType 340 135), (0, u "binaryGcd"), (0, .methodref 12 342), (0, .nameAndType 343 145), (0, u "difference"), (67, u "KNUTH_POW2_THRESH_LEN"), (2, u "KNUTH_POW2_THRESH_ZEROS"), (137, u "hybridGCD")] 37

def k7c0 : Code := { maxStack := 2, maxLocals := 1, code := jdk_2101_method_1_code, exceptionTable := #[], attributes := #[] }
def k7m0 : Method := { name := "<init>", desc := "()V", sig := { parameters := [], returnType := none }, accessFlags := 0, code := some k7c0 }
def k7c1 : Code := { maxStack := 2, maxLocals := 2, code := jdk_2101_method_3_code, exceptionTable := #[], attributes := #[] }
def k7m1 : Method := { name := "<init>", desc := "([I)V", sig := { parameters := [(.array .int)], returnType := none }, accessFlags := 0, code := some k7c1 }
def k7c2 : Code := { maxStack := 3, maxLocals := 2, code := jdk_2101_method_4_code, exceptionTable := #[], attributes := #[] }
def k7m2 : Method := { name := "<init>", desc := "(Ljava/math/BigInteger;)V", sig := { parameters := [(.object "java/math/BigInteger")], returnType := none }, accessFlags := 0, code := some k7c2 }
def k7c3 : Code := { maxStack := 4, maxLocals := 2, code := jdk_2101_method_7_code, exceptionTable := #[], attributes := #[] }
def k7m3 : Method := { name := "getMagnitudeArray", desc := "()[I", sig := { parameters := [], returnType := some (.array .int) }, accessFlags := 2, code := some k7c3 }
def k7c4 : Code := { maxStack := 4, maxLocals := 2, code := jdk_2101_method_9_code, exceptionTable := #[], attributes := #[] }
def k7m4 : Method := { name := "toBigInteger", desc := "(I)Ljava/math/BigInteger;", sig := { parameters := [.int], returnType := some (.object "java/math/BigInteger") }, accessFlags := 0, code := some k7c4 }
def k7c5 : Code := { maxStack := 4, maxLocals := 3, code := jdk_2101_method_13_code, exceptionTable := #[], attributes := #[] }
def k7m5 : Method := { name := "clear", desc := "()V", sig := { parameters := [], returnType := none }, accessFlags := 0, code := some k7c5 }
def k7c6 : Code := { maxStack := 3, maxLocals := 8, code := jdk_2101_method_15_code, exceptionTable := #[], attributes := #[] }
def k7m6 : Method := { name := "compare", desc := "(Ljava/math/MutableBigInteger;)I", sig := { parameters := [(.object "java/math/MutableBigInteger")], returnType := some .int }, accessFlags := 16, code := some k7c6 }
def k7c7 : Code := { maxStack := 3, maxLocals := 3, code := jdk_2101_method_18_code, exceptionTable := #[], attributes := #[] }
def k7m7 : Method := { name := "getLowestSetBit", desc := "()I", sig := { parameters := [], returnType := some .int }, accessFlags := 18, code := some k7c7 }
def k7c8 : Code := { maxStack := 3, maxLocals := 4, code := jdk_2101_method_21_code, exceptionTable := #[], attributes := #[] }
def k7m8 : Method := { name := "normalize", desc := "()V", sig := { parameters := [], returnType := none }, accessFlags := 16, code := some k7c8 }
def k7c9 : Code := { maxStack := 3, maxLocals := 5, code := jdk_2101_method_35_code, exceptionTable := #[], attributes := #[] }
def k7m9 : Method := { name := "rightShift", desc := "(I)V", sig := { parameters := [.int], returnType := none }, accessFlags := 0, code := some k7c9 }
def k7c10 : Code := { maxStack := 5, maxLocals := 7, code := jdk_2101_method_41_code, exceptionTable := #[], attributes := #[] }
def k7m10 : Method := { name := "primitiveRightShift", desc := "(I)V", sig := { parameters := [.int], returnType := none }, accessFlags := 18, code := some k7c10 }
def k7c11 : Code := { maxStack := 5, maxLocals := 8, code := jdk_2101_method_42_code, exceptionTable := #[], attributes := #[] }
def k7m11 : Method := { name := "primitiveLeftShift", desc := "(I)V", sig := { parameters := [.int], returnType := none }, accessFlags := 18, code := some k7c11 }
def k7c12 : Code := { maxStack := 6, maxLocals := 8, code := jdk_2101_method_50_code, exceptionTable := #[], attributes := #[] }
def k7m12 : Method := { name := "difference", desc := "(Ljava/math/MutableBigInteger;)I", sig := { parameters := [(.object "java/math/MutableBigInteger")], returnType := some .int }, accessFlags := 2, code := some k7c12 }
def k7c13 : Code := { maxStack := 6, maxLocals := 15, code := jdk_2101_method_53_code, exceptionTable := #[], attributes := #[] }
def k7m13 : Method := { name := "divideOneWord", desc := "(ILjava/math/MutableBigInteger;)I", sig := { parameters := [.int, (.object "java/math/MutableBigInteger")], returnType := some .int }, accessFlags := 0, code := some k7c13 }
def k7c14 : Code := { maxStack := 5, maxLocals := 8, code := jdk_2101_method_57_code, exceptionTable := #[], attributes := #[] }
def k7m14 : Method := { name := "divideKnuth", desc := "(Ljava/math/MutableBigInteger;Ljava/math/MutableBigInteger;Z)Ljava/math/MutableBigInteger;", sig := { parameters := [(.object "java/math/MutableBigInteger"), (.object "java/math/MutableBigInteger"), .boolean], returnType := some (.object "java/math/MutableBigInteger") }, accessFlags := 0, code := some k7c14 }
def k7c15 : Code := { maxStack := 3, maxLocals := 5, code := jdk_2101_method_72_code, exceptionTable := #[], attributes := #[] }
def k7m15 : Method := { name := "hybridGCD", desc := "(Ljava/math/MutableBigInteger;)Ljava/math/MutableBigInteger;", sig := { parameters := [(.object "java/math/MutableBigInteger")], returnType := some (.object "java/math/MutableBigInteger") }, accessFlags := 0, code := some k7c15 }
def k7c16 : Code := { maxStack := 3, maxLocals := 13, code := jdk_2101_method_73_code, exceptionTable := #[], attributes := #[] }
def k7m16 : Method := { name := "binaryGCD", desc := "(Ljava/math/MutableBigInteger;)Ljava/math/MutableBigInteger;", sig := { parameters := [(.object "java/math/MutableBigInteger")], returnType := some (.object "java/math/MutableBigInteger") }, accessFlags := 2, code := some k7c16 }
def k7c17 : Code := { maxStack := 3, maxLocals := 5, code := jdk_2101_method_74_code, exceptionTable := #[], attributes := #[] }
def k7m17 : Method := { name := "binaryGcd", desc := "(II)I", sig := { parameters := [.int, .int], returnType := some .int }, accessFlags := 8, code := some k7c17 }
/-- java/math/MutableBigInteger -/
def k7 : Class := { plain "java/math/MutableBigInteger" (some 0) with
  accessFlags := 32
  interfaces := #[]
  cf := some (fileOf pool7 12 #[] #[{ accessFlags := 0, nameIndex := 9, descriptorIndex := 10, attributes := #[] }, { accessFlags := 0, nameIndex := 9, descriptorIndex := 261, attributes := #[] }, { accessFlags := 0, nameIndex := 9, descriptorIndex := 245, attributes := #[] }, { accessFlags := 2, nameIndex := 60, descriptorIndex := 61, attributes := #[] }, { accessFlags := 0, nameIndex := 73, descriptorIndex := 74, attributes := #[] }, { accessFlags := 0, nameIndex := 151, descriptorIndex := 10, attributes := #[] }, { accessFlags := 16, nameIndex := 144, descriptorIndex := 145, attributes := #[] }, { accessFlags := 18, nameIndex := 186, descriptorIndex := 187, attributes := #[] }, { accessFlags := 16, nameIndex := 66, descriptorIndex := 10, attributes := #[] }, { accessFlags := 0, nameIndex := 110, descriptorIndex := 111, attributes := #[] }, { accessFlags := 18, nameIndex := 120, descriptorIndex := 111, attributes := #[] }, { accessFlags := 18, nameIndex := 117, descriptorIndex := 111, attributes := #[] }, { accessFlags := 2, nameIndex := 343, descriptorIndex := 145, attributes := #[] }, { accessFlags := 0, nameIndex := 180, descriptorIndex := 181, attributes := #[] }, { accessFlags := 0, nameIndex := 165, descriptorIndex := 162, attributes := #[] }, { accessFlags := 0, nameIndex := 552, descriptorIndex := 335, attributes := #[] }, { accessFlags := 2, nameIndex := 334, descriptorIndex := 335, attributes := #[] }, { accessFlags := 8, nameIndex := 340, descriptorIndex := 135, attributes := #[] }] 32 6 #[] #[{ accessFlags := 0, nameIndex := 19, descriptorIndex := 20, attributes := #[] }, { accessFlags := 0, nameIndex := 23, descriptorIndex := 16, attributes := #[] }, { accessFlags := 0, nameIndex := 15, descriptorIndex := 16, attributes := #[] }, { accessFlags := 24, nameIndex := 257, descriptorIndex := 258, attributes := #[] }, { accessFlags := 24, nameIndex := 411, descriptorIndex := 16, attributes := #[] }, { accessFlags := 24, nameIndex := 414, descriptorIndex := 16, attributes := #[] }, { accessFlags := 4120, nameIndex := 43, descriptorIndex := 44, attributes := #[] }])
  fields := #[{ name := "value", type := (.array .int), accessFlags := 0, slot := 0, constantValue := 0 }, { name := "intLen", type := .int, accessFlags := 0, slot := 1, constantValue := 0 }, { name := "offset", type := .int, accessFlags := 0, slot := 2, constantValue := 0 }, { name := "ONE", type := (.object "java/math/MutableBigInteger"), accessFlags := 24, slot := 0, constantValue := 0 }, { name := "KNUTH_POW2_THRESH_LEN", type := .int, accessFlags := 24, slot := 1, constantValue := 0 }, { name := "KNUTH_POW2_THRESH_ZEROS", type := .int, accessFlags := 24, slot := 2, constantValue := 0 }, { name := "$assertionsDisabled", type := .boolean, accessFlags := 4120, slot := 3, constantValue := 0 }]
  methods := #[k7m0, k7m1, k7m2, k7m3, k7m4, k7m5, k7m6, k7m7, k7m8, k7m9, k7m10, k7m11, k7m12, k7m13, k7m14, k7m15, k7m16, k7m17]
  instanceTypes := #[(.array .int), .int, .int]
  staticTypes := #[(.object "java/math/MutableBigInteger"), .int, .int, .boolean]
  resolved := Array.replicate 590 none
  statics := none }

def pool8 : Array CpInfo := pool [(2, .class_ 4), (1, u "java/lang/Object"), (0, u "<init>"), (0, u "()V"), (7, .class_ 16), (1, u "java/util/Arrays"), (57, .class_ 76), (1, u "java/util/Arrays$NaturalOrder"), (32, u "()Ljava/lang/Object;"), (3, .class_ 115), (1, u "java/util/Arrays$LegacyMergeSort"), (1, u "Z"), (10, .nameAndType 129 109), (0, u "clone"), (172, u "copyOf"), (13, .methodref 317 128), (0, .class_ 318), (0, u "[I"), (56, .class_ 376), (0, u "java/util/Arrays$ArrayList"), (68, u "$assertionsDisabled"), (269, u "MIN_ARRAY_SORT_GRAN"), (0, u "I"), (2, u "INSERTIONSORT_THRESHOLD"), (151, u "([II)[I"), (103, .class_ 976), (0, u "java/util/Arrays$ArrayItr")] 52

def k8m0 : Method := { name := "<init>", desc := "()V", sig := { parameters := [], returnType := none }, accessFlags := 2, code := none }
def k8c1 : Code := { maxStack := 6, maxLocals := 3, code := jdk_65_method_123_code, exceptionTable := #[], attributes := #[] }
def k8m1 : Method := { name := "copyOf", desc := "([II)[I", sig := { parameters := [(.array .int), .int], returnType := some (.array .int) }, accessFlags := 9, code := some k8c1 }
/-- java/util/Arrays -/
def k8 : Class := { plain "java/util/Arrays" (some 0) with
  accessFlags := 49
  interfaces := #[]
  cf := some (fileOf pool8 14 #[.nestMembers #[975, 375, 113, 74]] #[{ accessFlags := 2, nameIndex := 5, descriptorIndex := 6, attributes := #[] }, { accessFlags := 9, nameIndex := 302, descriptorIndex := 871, attributes := #[] }] 49 2 #[] #[{ accessFlags := 26, nameIndex := 715, descriptorIndex := 716, attributes := #[] }, { accessFlags := 26, nameIndex := 719, descriptorIndex := 716, attributes := #[] }, { accessFlags := 4120, nameIndex := 445, descriptorIndex := 117, attributes := #[] }])
  fields := #[{ name := "MIN_ARRAY_SORT_GRAN", type := .int, accessFlags := 26, slot := 0, constantValue := 0 }, { name := "INSERTIONSORT_THRESHOLD", type := .int, accessFlags := 26, slot := 1, constantValue := 0 }, { name := "$assertionsDisabled", type := .boolean, accessFlags := 4120, slot := 2, constantValue := 0 }]
  methods := #[k8m0, k8m1]
  instanceTypes := #[]
  staticTypes := #[.int, .int, .boolean]
  resolved := Array.replicate 1029 none
  statics := none }

def pool9 : Array CpInfo := pool [(1, .class_ 2), (0, u "java/lang/Cloneable"), (0, .class_ 4), (0, u "java/lang/Object")] 2

/-- java/lang/Cloneable -/
def k9 : Class := { plain "java/lang/Cloneable" (some 0) with
  accessFlags := 1537
  interfaces := #[]
  cf := some (fileOf pool9 1 #[] #[] 1537 3 #[] #[])
  fields := #[]
  methods := #[]
  instanceTypes := #[]
  staticTypes := #[]
  resolved := Array.replicate 7 none
  statics := none }

def pool10 : Array CpInfo := pool [(1, .class_ 2), (0, u "java/lang/Math"), (1, .class_ 6), (1, u "java/lang/Object"), (0, u "<init>"), (0, u "()V"), (89, .class_ 100), (1, u "java/lang/Math$RandomNumberGeneratorHolder"), (23, u "abs"), (34, u "(I)I"), (12, u "negativeZeroFloatBits"), (0, u "J"), (2, u "negativeZeroDoubleBits"), (68, u "$assertionsDisabled"), (0, u "Z"), (91, u "twoToTheDoubleScaleDown"), (0, u "D"), (4, u "twoToTheDoubleScaleUp"), (9, u "E"), (3, u "PI"), (2, u "TAU"), (2, u "DEGREES_TO_RADIANS"), (0, u "RADIANS_TO_DEGREES")] 94

def k10m0 : Method := { name := "<init>", desc := "()V", sig := { parameters := [], returnType := none }, accessFlags := 2, code := none }
def k10c1 : Code := { maxStack := 1, maxLocals := 1, code := jdk_29_method_59_code, exceptionTable := #[], attributes := #[] }
def k10m1 : Method := { name := "abs", desc := "(I)I", sig := { parameters := [.int], returnType := some .int }, accessFlags := 9, code := some k10c1 }
/-- java/lang/Math -/
def k10 : Class := { plain "java/lang/Math" (some 0) with
  accessFlags := 49
  interfaces := #[]
  cf := some (fileOf pool10 1 #[.nestMembers #[98]] #[{ accessFlags := 2, nameIndex := 7, descriptorIndex := 8, attributes := #[] }, { accessFlags := 9, nameIndex := 124, descriptorIndex := 159, attributes := #[] }] 49 4 #[] #[{ accessFlags := 25, nameIndex := 354, descriptorIndex := 339, attributes := #[] }, { accessFlags := 25, nameIndex := 358, descriptorIndex := 339, attributes := #[] }, { accessFlags := 25, nameIndex := 361, descriptorIndex := 339, attributes := #[] }, { accessFlags := 26, nameIndex := 364, descriptorIndex := 339, attributes := #[] }, { accessFlags := 26, nameIndex := 365, descriptorIndex := 339, attributes := #[] }, { accessFlags := 26, nameIndex := 172, descriptorIndex := 173, attributes := #[] }, { accessFlags := 26, nameIndex := 176, descriptorIndex := 173, attributes := #[] }, { accessFlags := 8, nameIndex := 344, descriptorIndex := 339, attributes := #[] }, { accessFlags := 8, nameIndex := 338, descriptorIndex := 339, attributes := #[] }, { accessFlags := 4120, nameIndex := 245, descriptorIndex := 246, attributes := #[] }])
  fields := #[{ name := "E", type := .double, accessFlags := 25, slot := 0, constantValue := 0 }, { name := "PI", type := .double, accessFlags := 25, slot := 1, constantValue := 0 }, { name := "TAU", type := .double, accessFlags := 25, slot := 2, constantValue := 0 }, { name := "DEGREES_TO_RADIANS", type := .double, accessFlags := 26, slot := 3, constantValue := 0 }, { name := "RADIANS_TO_DEGREES", type := .double, accessFlags := 26, slot := 4, constantValue := 0 }, { name := "negativeZeroFloatBits", type := .long, accessFlags := 26, slot := 5, constantValue := 0 }, { name := "negativeZeroDoubleBits", type := .long, accessFlags := 26, slot := 6, constantValue := 0 }, { name := "twoToTheDoubleScaleUp", type := .double, accessFlags := 8, slot := 7, constantValue := 0 }, { name := "twoToTheDoubleScaleDown", type := .double, accessFlags := 8, slot := 8, constantValue := 0 }, { name := "$assertionsDisabled", type := .boolean, accessFlags := 4120, slot := 9, constantValue := 0 }]
  methods := #[k10m0, k10m1]
  instanceTypes := #[]
  staticTypes := #[.double, .double, .double, .double, .double, .long, .long, .double, .double, .boolean]
  resolved := Array.replicate 460 none
  statics := none }

def pool11 : Array CpInfo := pool [(1, .class_ 2), (0, u "java/lang/constant/Constable"), (0, .class_ 4), (0, u "java/lang/Object")] 6

/-- java/lang/constant/Constable -/
def k11 : Class := { plain "java/lang/constant/Constable" (some 0) with
  accessFlags := 1537
  interfaces := #[]
  cf := some (fileOf pool11 1 #[] #[] 1537 3 #[] #[])
  fields := #[]
  methods := #[]
  instanceTypes := #[]
  staticTypes := #[]
  resolved := Array.replicate 11 none
  statics := none }

def pool12 : Array CpInfo := pool [(1, .class_ 2), (0, u "java/lang/constant/ConstantDesc"), (0, .class_ 4), (0, u "java/lang/Object")] 32

/-- java/lang/constant/ConstantDesc -/
def k12 : Class := { plain "java/lang/constant/ConstantDesc" (some 0) with
  accessFlags := 1537
  interfaces := #[]
  cf := some (fileOf pool12 1 #[] #[] 1537 3 #[] #[])
  fields := #[]
  methods := #[]
  instanceTypes := #[]
  staticTypes := #[]
  resolved := Array.replicate 37 none
  statics := none }

def pool13 : Array CpInfo := pool [(1, .class_ 2), (0, u "java/lang/Integer"), (16, u "digits"), (0, u "[C"), (32, u "numberOfLeadingZeros"), (0, u "(I)I"), (30, u "DigitOnes"), (0, u "[B"), (2, u "DigitTens"), (99, .class_ 190), (0, u "java/lang/Integer$IntegerCache"), (3, u "I"), (8, .class_ 204), (0, u "java/lang/Number"), (2, u "value"), (56, .integer 65536), (0, .integer 1431655765), (0, .integer 858993459), (0, .integer 252645135), (34, u "TYPE"), (0, u "Ljava/lang/Class;"), (0, .class_ 305), (0, u "java/lang/Comparable"), (0, .class_ 307), (0, u "java/lang/constant/Constable"), (0, .class_ 309), (0, u "java/lang/constant/ConstantDesc"), (0, u "MIN_VALUE"), (1, u "MAX_VALUE"), (3, u "SIZE"), (1, u "BYTES"), (1, u "serialVersionUID"), (0, u "J"), (84, u "numberOfTrailingZeros"), (0, u "bitCount")] 45

def k13c0 : Code := { maxStack := 3, maxLocals := 2, code := jdk_33_method_47_code, exceptionTable := #[], attributes := #[] }
def k13m0 : Method := { name := "numberOfLeadingZeros", desc := "(I)I", sig := { parameters := [.int], returnType := some .int }, accessFlags := 9, code := some k13c0 }
def k13c1 : Code := { maxStack := 3, maxLocals := 2, code := jdk_33_method_48_code, exceptionTable := #[], attributes := #[] }
def k13m1 : Method := { name := "numberOfTrailingZeros", desc := "(I)I", sig := { parameters := [.int], returnType := some .int }, accessFlags := 9, code := some k13c1 }
def k13c2 : Code := { maxStack := 3, maxLocals := 1, code := jdk_33_method_49_code, exceptionTable := #[], attributes := #[] }
def k13m2 : Method := { name := "bitCount", desc := "(I)I", sig := { parameters := [.int], returnType := some .int }, accessFlags := 9, code := some k13c2 }
/-- java/lang/Integer -/
def k13 : Class := { plain "java/lang/Integer" (some 5) with
  accessFlags := 49
  interfaces := #[2, 11, 12]
  cf := some (fileOf pool13 1 #[.nestMembers #[189]] #[{ accessFlags := 9, nameIndex := 53, descriptorIndex := 54, attributes := #[] }, { accessFlags := 9, nameIndex := 406, descriptorIndex := 54, attributes := #[] }, { accessFlags := 9, nameIndex := 407, descriptorIndex := 54, attributes := #[] }] 49 203 #[304, 306, 308] #[{ accessFlags := 25, nameIndex := 310, descriptorIndex := 194, attributes := #[] }, { accessFlags := 25, nameIndex := 312, descriptorIndex := 194, attributes := #[] }, { accessFlags := 25, nameIndex := 302, descriptorIndex := 303, attributes := #[] }, { accessFlags := 24, nameIndex := 19, descriptorIndex := 20, attributes := #[] }, { accessFlags := 24, nameIndex := 89, descriptorIndex := 86, attributes := #[] }, { accessFlags := 24, nameIndex := 85, descriptorIndex := 86, attributes := #[] }, { accessFlags := 18, nameIndex := 207, descriptorIndex := 194, attributes := #[] }, { accessFlags := 25, nameIndex := 316, descriptorIndex := 194, attributes := #[] }, { accessFlags := 25, nameIndex := 318, descriptorIndex := 194, attributes := #[] }, { accessFlags := 26, nameIndex := 320, descriptorIndex := 321, attributes := #[] }])
  fields := #[{ name := "MIN_VALUE", type := .int, accessFlags := 25, slot := 0, constantValue := 0 }, { name := "MAX_VALUE", type := .int, accessFlags := 25, slot := 1, constantValue := 0 }, { name := "TYPE", type := (.object "java/lang/Class"), accessFlags := 25, slot := 2, constantValue := 0 }, { name := "digits", type := (.array .char), accessFlags := 24, slot := 3, constantValue := 0 }, { name := "DigitTens", type := (.array .byte), accessFlags := 24, slot := 4, constantValue := 0 }, { name := "DigitOnes", type := (.array .byte), accessFlags := 24, slot := 5, constantValue := 0 }, { name := "value", type := .int, accessFlags := 18, slot := 0, constantValue := 0 }, { name := "SIZE", type := .int, accessFlags := 25, slot := 6, constantValue := 0 }, { name := "BYTES", type := .int, accessFlags := 25, slot := 7, constantValue := 0 }, { name := "serialVersionUID", type := .long, accessFlags := 26, slot := 8, constantValue := 0 }]
  methods := #[k13m0, k13m1, k13m2]
  instanceTypes := #[.int]
  staticTypes := #[.int, .int, (.object "java/lang/Class"), (.array .char), (.array .byte), (.array .byte), .int, .int, .long]
  resolved := Array.replicate 453 none
  statics := none }

def pool14 : Array CpInfo := pool [(2, .class_ 4), (1, u "java/lang/Object"), (0, u "<init>"), (0, u "()V"), (1, .class_ 10), (1, u "java/lang/System"), (0, u "allowSecurityManager"), (0, u "I"), (16, u "cons"), (0, u "Ljava/io/Console;"), (77, .class_ 110), (1, u "java/lang/System$CallersHolder"), (43, u "initialErrStream"), (0, u "Ljava/io/PrintStream;"), (19, u "security"), (0, u "Ljava/lang/SecurityManager;"), (31, .class_ 209), (0, u "java/lang/System$1"), (7, u "props"), (0, u "Ljava/util/Properties;"), (2, u "lineSeparator"), (0, u "Ljava/lang/String;"), (96, .class_ 321), (1, u "java/lang/System$LoggerFinder"), (5, .class_ 328), (0, u "java/lang/System$Logger"), (67, u "err"), (2, u "out"), (91, u "notSupportedJnuEncoding"), (15, u "in"), (17, u "initialIn"), (0, u "Ljava/io/InputStream;"), (35, u "bootLayer"), (0, u "Ljava/lang/ModuleLayer;"), (99, .class_ 664), (0, u "java/lang/System$2"), (9, u "NEVER"), (2, u "MAYBE"), (49, u "arraycopy"), (0, u "(Ljava/lang/Object;ILjava/lang/Object;II)V"), (72, .class_ 802), (0, u "java/lang/System$Logger$Level")] 31

def k14m0 : Method := { name := "<init>", desc := "()V", sig := { parameters := [], returnType := none }, accessFlags := 2, code := none }
def k14m1 : Method := { name := "arraycopy", desc := "(Ljava/lang/Object;ILjava/lang/Object;II)V", sig := { parameters := [(.object "java/lang/Object"), .int, (.object "java/lang/Object"), .int, .int], returnType := none }, accessFlags := 265, code := none }
/-- java/lang/System -/
def k14 : Class := { plain "java/lang/System" (some 0) with
  accessFlags := 49
  interfaces := #[]
  cf := some (fileOf pool14 8 #[.nestMembers #[319, 327, 801, 108, 663, 208]] #[{ accessFlags := 2, nameIndex := 5, descriptorIndex := 6, attributes := #[] }, { accessFlags := 265, nameIndex := 727, descriptorIndex := 728, attributes := #[] }] 49 2 #[] #[{ accessFlags := 25, nameIndex := 507, descriptorIndex := 526, attributes := #[] }, { accessFlags := 25, nameIndex := 399, descriptorIndex := 155, attributes := #[] }, { accessFlags := 25, nameIndex := 396, descriptorIndex := 155, attributes := #[] }, { accessFlags := 10, nameIndex := 525, descriptorIndex := 526, attributes := #[] }, { accessFlags := 26, nameIndex := 674, descriptorIndex := 12, attributes := #[] }, { accessFlags := 26, nameIndex := 677, descriptorIndex := 12, attributes := #[] }, { accessFlags := 10, nameIndex := 11, descriptorIndex := 12, attributes := #[] }, { accessFlags := 74, nameIndex := 175, descriptorIndex := 176, attributes := #[] }, { accessFlags := 10, nameIndex := 491, descriptorIndex := 222, attributes := #[] }, { accessFlags := 74, nameIndex := 29, descriptorIndex := 30, attributes := #[] }, { accessFlags := 74, nameIndex := 154, descriptorIndex := 155, attributes := #[] }, { accessFlags := 10, nameIndex := 217, descriptorIndex := 218, attributes := #[] }, { accessFlags := 10, nameIndex := 221, descriptorIndex := 222, attributes := #[] }, { accessFlags := 8, nameIndex := 562, descriptorIndex := 563, attributes := #[] }])
  fields := #[{ name := "in", type := (.object "java/io/InputStream"), accessFlags := 25, slot := 0, constantValue := 0 }, { name := "out", type := (.object "java/io/PrintStream"), accessFlags := 25, slot := 1, constantValue := 0 }, { name := "err", type := (.object "java/io/PrintStream"), accessFlags := 25, slot := 2, constantValue := 0 }, { name := "initialIn", type := (.object "java/io/InputStream"), accessFlags := 10, slot := 3, constantValue := 0 }, { name := "NEVER", type := .int, accessFlags := 26, slot := 4, constantValue := 0 }, { name := "MAYBE", type := .int, accessFlags := 26, slot := 5, constantValue := 0 }, { name := "allowSecurityManager", type := .int, accessFlags := 10, slot := 6, constantValue := 0 }, { name := "security", type := (.object "java/lang/SecurityManager"), accessFlags := 74, slot := 7, constantValue := 0 }, { name := "notSupportedJnuEncoding", type := (.object "java/lang/String"), accessFlags := 10, slot := 8, constantValue := 0 }, { name := "cons", type := (.object "java/io/Console"), accessFlags := 74, slot := 9, constantValue := 0 }, { name := "initialErrStream", type := (.object "java/io/PrintStream"), accessFlags := 74, slot := 10, constantValue := 0 }, { name := "props", type := (.object "java/util/Properties"), accessFlags := 10, slot := 11, constantValue := 0 }, { name := "lineSeparator", type := (.object "java/lang/String"), accessFlags := 10, slot := 12, constantValue := 0 }, { name := "bootLayer", type := (.object "java/lang/ModuleLayer"), accessFlags := 8, slot := 13, constantValue := 0 }]
  methods := #[k14m0, k14m1]
  instanceTypes := #[]
  staticTypes := #[(.object "java/io/InputStream"), (.object "java/io/PrintStream"), (.object "java/io/PrintStream"), (.object "java/io/InputStream"), .int, .int, .int, (.object "java/lang/SecurityManager"), (.object "java/lang/String"), (.object "java/io/Console"), (.object "java/io/PrintStream"), (.object "java/util/Properties"), (.object "java/lang/String"), (.object "java/lang/ModuleLayer")]
  resolved := Array.replicate 834 none
  statics := none }

/-- the primitive byte -/
def k15 : Class := { plain "byte" none with kind := .primitive 'B', accessFlags := 0x411 }
/-- [B -/
def k16 : Class := { plain "[B" (some 0) with kind := .array 15 .byte, interfaces := #[9, 4], accessFlags := 1041 }

/-- the primitive int -/
def k17 : Class := { plain "int" none with kind := .primitive 'I', accessFlags := 0x411 }
/-- [I -/
def k18 : Class := { plain "[I" (some 0) with kind := .array 17 .int, interfaces := #[9, 4], accessFlags := 1041 }

/-- [Ljava/math/BigInteger; -/
def k19 : Class := { plain "[Ljava/math/BigInteger;" (some 0) with kind := .array 6 (.object "java/math/BigInteger"), interfaces := #[9, 4], accessFlags := 1041 }

def heap : Heap := #[{ cls := 6, slots := #[.long 0, .int 0, .int 0, .int 0, .int 0, .int 0, .int 0, .int 0, .int 0, .int 0, .int 0, .int 0, .null, .int 0, .int 0, .null, .int 0, .ref 1, .ref 2, .null, .null, .double 0, .ref 35, .ref 3, .ref 4, .ref 19, .ref 12, .null, .int 0, .null, .null, .null, .null, .null, .long 0, .null, .int 0], vm := .statics 6 },
  { cls := 19, slots := #[.null, .ref 3, .ref 4, .ref 5, .ref 6, .ref 7, .ref 8, .ref 9, .ref 10, .ref 11, .ref 12, .ref 13, .ref 14, .ref 15, .ref 16, .ref 17, .ref 18], vm := .none },
  { cls := 19, slots := #[.null, .ref 19, .ref 20, .ref 21, .ref 22, .ref 23, .ref 24, .ref 25, .ref 26, .ref 27, .ref 28, .ref 29, .ref 30, .ref 31, .ref 32, .ref 33, .ref 34], vm := .none },
  { cls := 6, slots := #[.int 1, .ref 36, .int 0, .int 0, .int 0, .int 0], vm := .none },
  { cls := 6, slots := #[.int 1, .ref 37, .int 0, .int 0, .int 0, .int 0], vm := .none },
  { cls := 6, slots := #[.int 1, .ref 38, .int 0, .int 0, .int 0, .int 0], vm := .none },
  { cls := 6, slots := #[.int 1, .ref 39, .int 0, .int 0, .int 0, .int 0], vm := .none },
  { cls := 6, slots := #[.int 1, .ref 40, .int 0, .int 0, .int 0, .int 0], vm := .none },
  { cls := 6, slots := #[.int 1, .ref 41, .int 0, .int 0, .int 0, .int 0], vm := .none },
  { cls := 6, slots := #[.int 1, .ref 42, .int 0, .int 0, .int 0, .int 0], vm := .none },
  { cls := 6, slots := #[.int 1, .ref 43, .int 0, .int 0, .int 0, .int 0], vm := .none },
  { cls := 6, slots := #[.int 1, .ref 44, .int 0, .int 0, .int 0, .int 0], vm := .none },
  { cls := 6, slots := #[.int 1, .ref 45, .int 0, .int 0, .int 0, .int 0], vm := .none },
  { cls := 6, slots := #[.int 1, .ref 46, .int 0, .int 0, .int 0, .int 0], vm := .none },
  { cls := 6, slots := #[.int 1, .ref 47, .int 0, .int 0, .int 0, .int 0], vm := .none },
  { cls := 6, slots := #[.int 1, .ref 48, .int 0, .int 0, .int 0, .int 0], vm := .none },
  { cls := 6, slots := #[.int 1, .ref 49, .int 0, .int 0, .int 0, .int 0], vm := .none },
  { cls := 6, slots := #[.int 1, .ref 50, .int 0, .int 0, .int 0, .int 0], vm := .none },
  { cls := 6, slots := #[.int 1, .ref 51, .int 0, .int 0, .int 0, .int 0], vm := .none },
  { cls := 6, slots := #[.int (-1), .ref 52, .int 0, .int 0, .int 0, .int 0], vm := .none },
  { cls := 6, slots := #[.int (-1), .ref 53, .int 0, .int 0, .int 0, .int 0], vm := .none },
  { cls := 6, slots := #[.int (-1), .ref 54, .int 0, .int 0, .int 0, .int 0], vm := .none },
  { cls := 6, slots := #[.int (-1), .ref 55, .int 0, .int 0, .int 0, .int 0], vm := .none },
  { cls := 6, slots := #[.int (-1), .ref 56, .int 0, .int 0, .int 0, .int 0], vm := .none },
  { cls := 6, slots := #[.int (-1), .ref 57, .int 0, .int 0, .int 0, .int 0], vm := .none },
  { cls := 6, slots := #[.int (-1), .ref 58, .int 0, .int 0, .int 0, .int 0], vm := .none },
  { cls := 6, slots := #[.int (-1), .ref 59, .int 0, .int 0, .int 0, .int 0], vm := .none },
  { cls := 6, slots := #[.int (-1), .ref 60, .int 0, .int 0, .int 0, .int 0], vm := .none },
  { cls := 6, slots := #[.int (-1), .ref 61, .int 0, .int 0, .int 0, .int 0], vm := .none },
  { cls := 6, slots := #[.int (-1), .ref 62, .int 0, .int 0, .int 0, .int 0], vm := .none },
  { cls := 6, slots := #[.int (-1), .ref 63, .int 0, .int 0, .int 0, .int 0], vm := .none },
  { cls := 6, slots := #[.int (-1), .ref 64, .int 0, .int 0, .int 0, .int 0], vm := .none },
  { cls := 6, slots := #[.int (-1), .ref 65, .int 0, .int 0, .int 0, .int 0], vm := .none },
  { cls := 6, slots := #[.int (-1), .ref 66, .int 0, .int 0, .int 0, .int 0], vm := .none },
  { cls := 6, slots := #[.int (-1), .ref 67, .int 0, .int 0, .int 0, .int 0], vm := .none },
  { cls := 6, slots := #[.int 0, .ref 68, .int 0, .int 0, .int 0, .int 0], vm := .none },
  { cls := 18, slots := #[.int 1], vm := .none },
  { cls := 18, slots := #[.int 2], vm := .none },
  { cls := 18, slots := #[.int 3], vm := .none },
  { cls := 18, slots := #[.int 4], vm := .none },
  { cls := 18, slots := #[.int 5], vm := .none },
  { cls := 18, slots := #[.int 6], vm := .none },
  { cls := 18, slots := #[.int 7], vm := .none },
  { cls := 18, slots := #[.int 8], vm := .none },
  { cls := 18, slots := #[.int 9], vm := .none },
  { cls := 18, slots := #[.int 10], vm := .none },
  { cls := 18, slots := #[.int 11], vm := .none },
  { cls := 18, slots := #[.int 12], vm := .none },
  { cls := 18, slots := #[.int 13], vm := .none },
  { cls := 18, slots := #[.int 14], vm := .none },
  { cls := 18, slots := #[.int 15], vm := .none },
  { cls := 18, slots := #[.int 16], vm := .none },
  { cls := 18, slots := #[.int 1], vm := .none },
  { cls := 18, slots := #[.int 2], vm := .none },
  { cls := 18, slots := #[.int 3], vm := .none },
  { cls := 18, slots := #[.int 4], vm := .none },
  { cls := 18, slots := #[.int 5], vm := .none },
  { cls := 18, slots := #[.int 6], vm := .none },
  { cls := 18, slots := #[.int 7], vm := .none },
  { cls := 18, slots := #[.int 8], vm := .none },
  { cls := 18, slots := #[.int 9], vm := .none },
  { cls := 18, slots := #[.int 10], vm := .none },
  { cls := 18, slots := #[.int 11], vm := .none },
  { cls := 18, slots := #[.int 12], vm := .none },
  { cls := 18, slots := #[.int 13], vm := .none },
  { cls := 18, slots := #[.int 14], vm := .none },
  { cls := 18, slots := #[.int 15], vm := .none },
  { cls := 18, slots := #[.int 16], vm := .none },
  { cls := 18, slots := #[], vm := .none }]
def classes : Array Class := #[k0, k1, k2, k3, k4, k5, k6, k7, k8, k9, k10, k11, k12, k13, k14, k15, k16, k17, k18, k19]
def interned : List (Array UInt16 × Addr) := []
def slotsUsed : Nat := 301
def theMethod : MethodId := ⟨1, 1⟩
def args0 : Array Value := #[.long 5, .long 6]
def aboutOver (below : List Frame) : State where
  vm := { classes := classes, interned := interned.toArray }
  heap := heap
  slotsUsed := slotsUsed
  threads := #[{ frames := .invoking theMethod args0 :: below }]
def below0 : List Frame := [.native { method := ⟨0, 0⟩, args := #[] }]
def about1 : State := aboutOver below0
def p0 : Program := .bare "" "" ""
def e0 : Env := launch0.env 0 0 0
theorem w_frames : about1.frames = Frame.invoking theMethod args0 :: below0 := rfl
set_option maxRecDepth 65536 in
theorem w_args : argsFit about1.vm theMethod args0 = true := by decide +kernel
set_option maxRecDepth 65536 in
theorem w_heap : heapFits about1 = true := by decide +kernel
set_option maxRecDepth 65536 in
theorem w_runnable : about1.curStatus? = some .runnable := by decide +kernel
set_option maxRecDepth 65536 in
theorem w_alone : about1.alone = true := by decide +kernel
set_option maxRecDepth 65536 in
theorem w_named : about1.methodNamed? x = some theMethod := by decide +kernel
set_option maxRecDepth 65536 in
theorem w_hears : about1.hears theMethod below0 = true := by decide +kernel
set_option maxRecDepth 65536 in
theorem w_ripe : about1.ripe theMethod args0 below0 = true := by decide +kernel
theorem w_running : about1.status = .running := rfl
set_option maxRecDepth 65536 in
theorem w_room : about1.hasRoom e0.platform room_1 = true :=
  launch0.hasRoom_least _ room_1 (by decide +kernel) (by decide +kernel) (by decide +kernel) (by decide +kernel) (by decide +kernel) (by decide +kernel)
theorem allAtoms_all (ts : List Jvm.Cond) (a : Array Jvm.Value) (st : Jvm.State) : (allAtoms ts).before a st = ts.all (fun c => c.before a st) := by
  induction ts with
  | nil => rfl
  | cons c t ih =>
    show (Jvm.Cond.and c (allAtoms t)).before a st = _
    rw [Jvm.Cond.before_and, ih, List.all_cons]
def words1 : List Jvm.Cond := Jvm.Cond.code x code maxLocals ret :: tables_1
/-- a 'code' word, met by the world's own term for the bytes: nothing is compared byte by byte -/
theorem code_word {y : MethodName} {bytes : ByteArray} {mx : Nat} {rt : Option FieldType} {a : Array Value} {s : State} {m : MethodId} {meth : Method} {c : Code} (h1 : s.methodNamed? y = some m) (h2 : s.vm.method? m = some meth) (h3 : meth.code = some c) (h4 : c.code = bytes)
    (h5 : (c.maxLocals == mx && c.exceptionTable.isEmpty && decide (c.maxStack ≤ mostOperands) && decide (meth.sig.returnType = rt) && !meth.locks && decide (parseMethodDescriptor y.desc = some meth.sig)) = true) : (Jvm.Cond.code y bytes mx rt).before a s = true := by
  simp only [Bool.and_eq_true, beq_iff_eq, Bool.not_eq_true', decide_eq_true_eq] at h5
  obtain ⟨⟨⟨⟨⟨g1, g2⟩, g3⟩, g4⟩, g5⟩, g6⟩ := h5
  simp [Cond.before, Cond.holds, Cond.value, h1, h2, h3, h4, g1, g2, g3, g4, g5, g6]
def isCode : Jvm.Cond → Bool
  | .code _ _ _ _ => true
  | _ => false
theorem all_split {L : List Jvm.Cond} {P : Jvm.Cond → Bool} (h1 : L.all (fun c => isCode c || P c) = true) (h2 : ∀ c ∈ L.filter isCode, P c = true) : L.all P = true := by
  refine List.all_eq_true.mpr fun c hc => ?_
  have h := List.all_eq_true.mp h1 c hc
  rcases Bool.eq_false_or_eq_true (isCode c) with hi | hi
  · exact h2 c (List.mem_filter.mpr ⟨hc, hi⟩)
  · simpa [hi] using h
set_option maxRecDepth 65536 in
theorem w_c0 : (Jvm.Cond.code x code maxLocals ret).before args0 about1 = true := code_word (m := ⟨1, 1⟩) (meth := k1m1) (c := k1c1) (by decide +kernel) rfl rfl rfl (by decide +kernel)
set_option maxRecDepth 65536 in
theorem w_c1 : (Jvm.Cond.code ({ cls := "com/example/varuna/varuna/Rational", name := "of", desc := "(J)Lcom/example/varuna/varuna/Rational;" } : Jvm.MethodName) prog_5_method_2_code (2 : Nat) (Option.some (Jvm.ClassFile.FieldType.object "com/example/varuna/varuna/Rational"))).before args0 about1 = true := code_word (m := ⟨3, 1⟩) (meth := k3m1) (c := k3c1) (by decide +kernel) rfl rfl rfl (by decide +kernel)
set_option maxRecDepth 65536 in
theorem w_c2 : (Jvm.Cond.code ({ cls := "java/math/BigInteger", name := "valueOf", desc := "(J)Ljava/math/BigInteger;" } : Jvm.MethodName) jdk_2097_method_29_code (2 : Nat) (Option.some (Jvm.ClassFile.FieldType.object "java/math/BigInteger"))).before args0 about1 = true := code_word (m := ⟨6, 1⟩) (meth := k6m1) (c := k6c1) (by decide +kernel) rfl rfl rfl (by decide +kernel)
set_option maxRecDepth 65536 in
theorem w_c3 : (Jvm.Cond.code ({ cls := "com/example/varuna/varuna/Rational", name := "<init>", desc := "(Ljava/math/BigInteger;Ljava/math/BigInteger;)V" } : Jvm.MethodName) prog_5_method_1_code (3 : Nat) (Option.none : Option Jvm.ClassFile.FieldType)).before args0 about1 = true := code_word (m := ⟨3, 0⟩) (meth := k3m0) (c := k3c0) (by decide +kernel) rfl rfl rfl (by decide +kernel)
set_option maxRecDepth 65536 in
theorem w_c4 : (Jvm.Cond.code ({ cls := "java/lang/Object", name := "<init>", desc := "()V" } : Jvm.MethodName) object_method_1_code (1 : Nat) (Option.none : Option Jvm.ClassFile.FieldType)).before args0 about1 = true := code_word (m := ⟨0, 0⟩) (meth := k0m0) (c := k0c0) (by decide +kernel) rfl rfl rfl (by decide +kernel)
set_option maxRecDepth 65536 in
theorem w_c5 : (Jvm.Cond.code ({ cls := "com/example/varuna/varuna/Rational", name := "of", desc := "(JJ)Lcom/example/varuna/varuna/Rational;" } : Jvm.MethodName) prog_5_method_3_code (4 : Nat) (Option.some (Jvm.ClassFile.FieldType.object "com/example/varuna/varuna/Rational"))).before args0 about1 = true := code_word (m := ⟨3, 2⟩) (meth := k3m2) (c := k3c2) (by decide +kernel) rfl rfl rfl (by decide +kernel)
set_option maxRecDepth 65536 in
theorem w_c6 : (Jvm.Cond.code ({ cls := "com/example/varuna/varuna/Rational", name := "of", desc := "(Ljava/math/BigInteger;Ljava/math/BigInteger;)Lcom/example/varuna/varuna/Rational;" } : Jvm.MethodName) prog_5_method_4_code (3 : Nat) (Option.some (Jvm.ClassFile.FieldType.object "com/example/varuna/varuna/Rational"))).before args0 about1 = true := code_word (m := ⟨3, 3⟩) (meth := k3m3) (c := k3c3) (by decide +kernel) rfl rfl rfl (by decide +kernel)
set_option maxRecDepth 65536 in
theorem w_c7 : (Jvm.Cond.code ({ cls := "java/math/BigInteger", name := "signum", desc := "()I" } : Jvm.MethodName) jdk_2097_method_81_code (1 : Nat) (Option.some Jvm.ClassFile.FieldType.int)).before args0 about1 = true := code_word (m := ⟨6, 11⟩) (meth := k6m11) (c := k6c11) (by decide +kernel) rfl rfl rfl (by decide +kernel)
set_option maxRecDepth 65536 in
theorem w_c8 : (Jvm.Cond.code ({ cls := "java/math/BigInteger", name := "gcd", desc := "(Ljava/math/BigInteger;)Ljava/math/BigInteger;" } : Jvm.MethodName) jdk_2097_method_73_code (5 : Nat) (Option.some (Jvm.ClassFile.FieldType.object "java/math/BigInteger"))).before args0 about1 = true := code_word (m := ⟨6, 8⟩) (meth := k6m8) (c := k6c8) (by decide +kernel) rfl rfl rfl (by decide +kernel)
set_option maxRecDepth 65536 in
theorem w_c9 : (Jvm.Cond.code ({ cls := "java/math/MutableBigInteger", name := "<init>", desc := "(Ljava/math/BigInteger;)V" } : Jvm.MethodName) jdk_2101_method_4_code (2 : Nat) (Option.none : Option Jvm.ClassFile.FieldType)).before args0 about1 = true := code_word (m := ⟨7, 2⟩) (meth := k7m2) (c := k7c2) (by decide +kernel) rfl rfl rfl (by decide +kernel)
set_option maxRecDepth 65536 in
theorem w_c10 : (Jvm.Cond.code ({ cls := "java/util/Arrays", name := "copyOf", desc := "([II)[I" } : Jvm.MethodName) jdk_65_method_123_code (3 : Nat) (Option.some (Jvm.ClassFile.FieldType.array Jvm.ClassFile.FieldType.int))).before args0 about1 = true := code_word (m := ⟨8, 1⟩) (meth := k8m1) (c := k8c1) (by decide +kernel) rfl rfl rfl (by decide +kernel)
set_option maxRecDepth 65536 in
theorem w_c11 : (Jvm.Cond.code ({ cls := "java/math/MutableBigInteger", name := "hybridGCD", desc := "(Ljava/math/MutableBigInteger;)Ljava/math/MutableBigInteger;" } : Jvm.MethodName) jdk_2101_method_72_code (5 : Nat) (Option.some (Jvm.ClassFile.FieldType.object "java/math/MutableBigInteger"))).before args0 about1 = true := code_word (m := ⟨7, 15⟩) (meth := k7m15) (c := k7c15) (by decide +kernel) rfl rfl rfl (by decide +kernel)
set_option maxRecDepth 65536 in
theorem w_c12 : (Jvm.Cond.code ({ cls := "java/math/MutableBigInteger", name := "<init>", desc := "()V" } : Jvm.MethodName) jdk_2101_method_1_code (1 : Nat) (Option.none : Option Jvm.ClassFile.FieldType)).before args0 about1 = true := code_word (m := ⟨7, 0⟩) (meth := k7m0) (c := k7c0) (by decide +kernel) rfl rfl rfl (by decide +kernel)
set_option maxRecDepth 65536 in
theorem w_c13 : (Jvm.Cond.code ({ cls := "java/lang/Math", name := "abs", desc := "(I)I" } : Jvm.MethodName) jdk_29_method_59_code (1 : Nat) (Option.some Jvm.ClassFile.FieldType.int)).before args0 about1 = true := code_word (m := ⟨10, 1⟩) (meth := k10m1) (c := k10c1) (by decide +kernel) rfl rfl rfl (by decide +kernel)
set_option maxRecDepth 65536 in
theorem w_c14 : (Jvm.Cond.code ({ cls := "java/math/MutableBigInteger", name := "binaryGCD", desc := "(Ljava/math/MutableBigInteger;)Ljava/math/MutableBigInteger;" } : Jvm.MethodName) jdk_2101_method_73_code (13 : Nat) (Option.some (Jvm.ClassFile.FieldType.object "java/math/MutableBigInteger"))).before args0 about1 = true := code_word (m := ⟨7, 16⟩) (meth := k7m16) (c := k7c16) (by decide +kernel) rfl rfl rfl (by decide +kernel)
set_option maxRecDepth 65536 in
theorem w_c15 : (Jvm.Cond.code ({ cls := "java/math/MutableBigInteger", name := "getLowestSetBit", desc := "()I" } : Jvm.MethodName) jdk_2101_method_18_code (3 : Nat) (Option.some Jvm.ClassFile.FieldType.int)).before args0 about1 = true := code_word (m := ⟨7, 7⟩) (meth := k7m7) (c := k7c7) (by decide +kernel) rfl rfl rfl (by decide +kernel)
set_option maxRecDepth 65536 in
theorem w_c16 : (Jvm.Cond.code ({ cls := "java/lang/Integer", name := "numberOfTrailingZeros", desc := "(I)I" } : Jvm.MethodName) jdk_33_method_48_code (2 : Nat) (Option.some Jvm.ClassFile.FieldType.int)).before args0 about1 = true := code_word (m := ⟨13, 1⟩) (meth := k13m1) (c := k13c1) (by decide +kernel) rfl rfl rfl (by decide +kernel)
set_option maxRecDepth 65536 in
theorem w_c17 : (Jvm.Cond.code ({ cls := "java/math/MutableBigInteger", name := "rightShift", desc := "(I)V" } : Jvm.MethodName) jdk_2101_method_35_code (5 : Nat) (Option.none : Option Jvm.ClassFile.FieldType)).before args0 about1 = true := code_word (m := ⟨7, 9⟩) (meth := k7m9) (c := k7c9) (by decide +kernel) rfl rfl rfl (by decide +kernel)
set_option maxRecDepth 65536 in
theorem w_c18 : (Jvm.Cond.code ({ cls := "java/math/MutableBigInteger", name := "binaryGcd", desc := "(II)I" } : Jvm.MethodName) jdk_2101_method_74_code (5 : Nat) (Option.some Jvm.ClassFile.FieldType.int)).before args0 about1 = true := code_word (m := ⟨7, 17⟩) (meth := k7m17) (c := k7c17) (by decide +kernel) rfl rfl rfl (by decide +kernel)
set_option maxRecDepth 65536 in
theorem w_c19 : (Jvm.Cond.code ({ cls := "java/math/MutableBigInteger", name := "toBigInteger", desc := "(I)Ljava/math/BigInteger;" } : Jvm.MethodName) jdk_2101_method_9_code (2 : Nat) (Option.some (Jvm.ClassFile.FieldType.object "java/math/BigInteger"))).before args0 about1 = true := code_word (m := ⟨7, 4⟩) (meth := k7m4) (c := k7c4) (by decide +kernel) rfl rfl rfl (by decide +kernel)
set_option maxRecDepth 65536 in
theorem w_c20 : (Jvm.Cond.code ({ cls := "java/math/MutableBigInteger", name := "getMagnitudeArray", desc := "()[I" } : Jvm.MethodName) jdk_2101_method_7_code (2 : Nat) (Option.some (Jvm.ClassFile.FieldType.array Jvm.ClassFile.FieldType.int))).before args0 about1 = true := code_word (m := ⟨7, 3⟩) (meth := k7m3) (c := k7c3) (by decide +kernel) rfl rfl rfl (by decide +kernel)
set_option maxRecDepth 65536 in
theorem w_c21 : (Jvm.Cond.code ({ cls := "java/math/BigInteger", name := "<init>", desc := "([II)V" } : Jvm.MethodName) jdk_2097_method_25_code (3 : Nat) (Option.none : Option Jvm.ClassFile.FieldType)).before args0 about1 = true := code_word (m := ⟨6, 0⟩) (meth := k6m0) (c := k6c0) (by decide +kernel) rfl rfl rfl (by decide +kernel)
set_option maxRecDepth 65536 in
theorem w_c22 : (Jvm.Cond.code ({ cls := "java/lang/Number", name := "<init>", desc := "()V" } : Jvm.MethodName) jdk_18_method_1_code (1 : Nat) (Option.none : Option Jvm.ClassFile.FieldType)).before args0 about1 = true := code_word (m := ⟨5, 0⟩) (meth := k5m0) (c := k5c0) (by decide +kernel) rfl rfl rfl (by decide +kernel)
set_option maxRecDepth 65536 in
theorem w_c23 : (Jvm.Cond.code ({ cls := "java/math/BigInteger", name := "divide", desc := "(Ljava/math/BigInteger;)Ljava/math/BigInteger;" } : Jvm.MethodName) jdk_2097_method_61_code (2 : Nat) (Option.some (Jvm.ClassFile.FieldType.object "java/math/BigInteger"))).before args0 about1 = true := code_word (m := ⟨6, 6⟩) (meth := k6m6) (c := k6c6) (by decide +kernel) rfl rfl rfl (by decide +kernel)
set_option maxRecDepth 65536 in
theorem w_c24 : (Jvm.Cond.code ({ cls := "java/math/BigInteger", name := "divideKnuth", desc := "(Ljava/math/BigInteger;)Ljava/math/BigInteger;" } : Jvm.MethodName) jdk_2097_method_62_code (5 : Nat) (Option.some (Jvm.ClassFile.FieldType.object "java/math/BigInteger"))).before args0 about1 = true := code_word (m := ⟨6, 7⟩) (meth := k6m7) (c := k6c7) (by decide +kernel) rfl rfl rfl (by decide +kernel)
set_option maxRecDepth 65536 in
theorem w_c25 : (Jvm.Cond.code ({ cls := "java/math/MutableBigInteger", name := "<init>", desc := "([I)V" } : Jvm.MethodName) jdk_2101_method_3_code (2 : Nat) (Option.none : Option Jvm.ClassFile.FieldType)).before args0 about1 = true := code_word (m := ⟨7, 1⟩) (meth := k7m1) (c := k7c1) (by decide +kernel) rfl rfl rfl (by decide +kernel)
set_option maxRecDepth 65536 in
theorem w_c26 : (Jvm.Cond.code ({ cls := "java/math/MutableBigInteger", name := "divideKnuth", desc := "(Ljava/math/MutableBigInteger;Ljava/math/MutableBigInteger;Z)Ljava/math/MutableBigInteger;" } : Jvm.MethodName) jdk_2101_method_57_code (8 : Nat) (Option.some (Jvm.ClassFile.FieldType.object "java/math/MutableBigInteger"))).before args0 about1 = true := code_word (m := ⟨7, 14⟩) (meth := k7m14) (c := k7c14) (by decide +kernel) rfl rfl rfl (by decide +kernel)
set_option maxRecDepth 65536 in
theorem w_c27 : (Jvm.Cond.code ({ cls := "java/math/MutableBigInteger", name := "compare", desc := "(Ljava/math/MutableBigInteger;)I" } : Jvm.MethodName) jdk_2101_method_15_code (8 : Nat) (Option.some Jvm.ClassFile.FieldType.int)).before args0 about1 = true := code_word (m := ⟨7, 6⟩) (meth := k7m6) (c := k7c6) (by decide +kernel) rfl rfl rfl (by decide +kernel)
set_option maxRecDepth 65536 in
theorem w_c28 : (Jvm.Cond.code ({ cls := "java/math/MutableBigInteger", name := "clear", desc := "()V" } : Jvm.MethodName) jdk_2101_method_13_code (3 : Nat) (Option.none : Option Jvm.ClassFile.FieldType)).before args0 about1 = true := code_word (m := ⟨7, 5⟩) (meth := k7m5) (c := k7c5) (by decide +kernel) rfl rfl rfl (by decide +kernel)
set_option maxRecDepth 65536 in
theorem w_c29 : (Jvm.Cond.code ({ cls := "java/math/MutableBigInteger", name := "divideOneWord", desc := "(ILjava/math/MutableBigInteger;)I" } : Jvm.MethodName) jdk_2101_method_53_code (15 : Nat) (Option.some Jvm.ClassFile.FieldType.int)).before args0 about1 = true := code_word (m := ⟨7, 13⟩) (meth := k7m13) (c := k7c13) (by decide +kernel) rfl rfl rfl (by decide +kernel)
set_option maxRecDepth 65536 in
theorem w_c30 : (Jvm.Cond.code ({ cls := "com/example/varuna/varuna/Rational", name := "equals", desc := "(Ljava/lang/Object;)Z" } : Jvm.MethodName) prog_5_method_23_code (2 : Nat) (Option.some Jvm.ClassFile.FieldType.boolean)).before args0 about1 = true := code_word (m := ⟨3, 6⟩) (meth := k3m6) (c := k3c6) (by decide +kernel) rfl rfl rfl (by decide +kernel)
set_option maxRecDepth 65536 in
theorem w_c31 : (Jvm.Cond.code ({ cls := "java/math/BigInteger", name := "equals", desc := "(Ljava/lang/Object;)Z" } : Jvm.MethodName) jdk_2097_method_124_code (7 : Nat) (Option.some Jvm.ClassFile.FieldType.boolean)).before args0 about1 = true := code_word (m := ⟨6, 15⟩) (meth := k6m15) (c := k6c15) (by decide +kernel) rfl rfl rfl (by decide +kernel)
set_option maxRecDepth 65536 in
theorem w_c32 : (Jvm.Cond.code ({ cls := "com/example/varuna/varuna/Rational", name := "compareTo", desc := "(Lcom/example/varuna/varuna/Rational;)I" } : Jvm.MethodName) prog_5_method_22_code (2 : Nat) (Option.some Jvm.ClassFile.FieldType.int)).before args0 about1 = true := code_word (m := ⟨3, 5⟩) (meth := k3m5) (c := k3c5) (by decide +kernel) rfl rfl rfl (by decide +kernel)
set_option maxRecDepth 65536 in
theorem w_c33 : (Jvm.Cond.code ({ cls := "java/math/BigInteger", name := "multiply", desc := "(Ljava/math/BigInteger;)Ljava/math/BigInteger;" } : Jvm.MethodName) jdk_2097_method_40_code (2 : Nat) (Option.some (Jvm.ClassFile.FieldType.object "java/math/BigInteger"))).before args0 about1 = true := code_word (m := ⟨6, 3⟩) (meth := k6m3) (c := k6c3) (by decide +kernel) rfl rfl rfl (by decide +kernel)
set_option maxRecDepth 65536 in
theorem w_c34 : (Jvm.Cond.code ({ cls := "java/math/BigInteger", name := "multiply", desc := "(Ljava/math/BigInteger;ZZI)Ljava/math/BigInteger;" } : Jvm.MethodName) jdk_2097_method_42_code (9 : Nat) (Option.some (Jvm.ClassFile.FieldType.object "java/math/BigInteger"))).before args0 about1 = true := code_word (m := ⟨6, 4⟩) (meth := k6m4) (c := k6c4) (by decide +kernel) rfl rfl rfl (by decide +kernel)
set_option maxRecDepth 65536 in
theorem w_c35 : (Jvm.Cond.code ({ cls := "java/math/BigInteger", name := "multiplyByInt", desc := "([III)Ljava/math/BigInteger;" } : Jvm.MethodName) jdk_2097_method_43_code (13 : Nat) (Option.some (Jvm.ClassFile.FieldType.object "java/math/BigInteger"))).before args0 about1 = true := code_word (m := ⟨6, 5⟩) (meth := k6m5) (c := k6c5) (by decide +kernel) rfl rfl rfl (by decide +kernel)
set_option maxRecDepth 65536 in
theorem w_c36 : (Jvm.Cond.code ({ cls := "java/lang/Integer", name := "bitCount", desc := "(I)I" } : Jvm.MethodName) jdk_33_method_49_code (1 : Nat) (Option.some Jvm.ClassFile.FieldType.int)).before args0 about1 = true := code_word (m := ⟨13, 2⟩) (meth := k13m2) (c := k13c2) (by decide +kernel) rfl rfl rfl (by decide +kernel)
set_option maxRecDepth 65536 in
theorem w_c37 : (Jvm.Cond.code ({ cls := "java/math/BigInteger", name := "shiftLeft", desc := "([II)[I" } : Jvm.MethodName) jdk_2097_method_102_code (10 : Nat) (Option.some (Jvm.ClassFile.FieldType.array Jvm.ClassFile.FieldType.int))).before args0 about1 = true := code_word (m := ⟨6, 12⟩) (meth := k6m12) (c := k6c12) (by decide +kernel) rfl rfl rfl (by decide +kernel)
set_option maxRecDepth 65536 in
theorem w_c38 : (Jvm.Cond.code ({ cls := "java/math/BigInteger", name := "compareTo", desc := "(Ljava/math/BigInteger;)I" } : Jvm.MethodName) jdk_2097_method_121_code (2 : Nat) (Option.some Jvm.ClassFile.FieldType.int)).before args0 about1 = true := code_word (m := ⟨6, 13⟩) (meth := k6m13) (c := k6c13) (by decide +kernel) rfl rfl rfl (by decide +kernel)
set_option maxRecDepth 65536 in
theorem w_c39 : (Jvm.Cond.code ({ cls := "java/math/BigInteger", name := "compareMagnitude", desc := "(Ljava/math/BigInteger;)I" } : Jvm.MethodName) jdk_2097_method_122_code (9 : Nat) (Option.some Jvm.ClassFile.FieldType.int)).before args0 about1 = true := code_word (m := ⟨6, 14⟩) (meth := k6m14) (c := k6c14) (by decide +kernel) rfl rfl rfl (by decide +kernel)
set_option maxRecDepth 65536 in
theorem w_c40 : (Jvm.Cond.code ({ cls := "com/example/varuna/varuna/Rational", name := "signum", desc := "()I" } : Jvm.MethodName) prog_5_method_11_code (1 : Nat) (Option.some Jvm.ClassFile.FieldType.int)).before args0 about1 = true := code_word (m := ⟨3, 4⟩) (meth := k3m4) (c := k3c4) (by decide +kernel) rfl rfl rfl (by decide +kernel)
set_option maxRecDepth 65536 in
theorem w_c41 : (Jvm.Cond.code ({ cls := "java/math/BigInteger", name := "<init>", desc := "(J)V" } : Jvm.MethodName) jdk_2097_method_30_code (4 : Nat) (Option.none : Option Jvm.ClassFile.FieldType)).before args0 about1 = true := code_word (m := ⟨6, 2⟩) (meth := k6m2) (c := k6c2) (by decide +kernel) rfl rfl rfl (by decide +kernel)
set_option maxRecDepth 65536 in
theorem w_c42 : (Jvm.Cond.code ({ cls := "java/math/BigInteger", name := "bitLengthForInt", desc := "(I)I" } : Jvm.MethodName) jdk_2097_method_74_code (1 : Nat) (Option.some Jvm.ClassFile.FieldType.int)).before args0 about1 = true := code_word (m := ⟨6, 9⟩) (meth := k6m9) (c := k6c9) (by decide +kernel) rfl rfl rfl (by decide +kernel)
set_option maxRecDepth 65536 in
theorem w_c43 : (Jvm.Cond.code ({ cls := "java/lang/Integer", name := "numberOfLeadingZeros", desc := "(I)I" } : Jvm.MethodName) jdk_33_method_47_code (2 : Nat) (Option.some Jvm.ClassFile.FieldType.int)).before args0 about1 = true := code_word (m := ⟨13, 0⟩) (meth := k13m0) (c := k13c0) (by decide +kernel) rfl rfl rfl (by decide +kernel)
set_option maxRecDepth 65536 in
theorem w_c44 : (Jvm.Cond.code ({ cls := "java/math/MutableBigInteger", name := "primitiveRightShift", desc := "(I)V" } : Jvm.MethodName) jdk_2101_method_41_code (7 : Nat) (Option.none : Option Jvm.ClassFile.FieldType)).before args0 about1 = true := code_word (m := ⟨7, 10⟩) (meth := k7m10) (c := k7c10) (by decide +kernel) rfl rfl rfl (by decide +kernel)
set_option maxRecDepth 65536 in
theorem w_c45 : (Jvm.Cond.code ({ cls := "java/math/MutableBigInteger", name := "difference", desc := "(Ljava/math/MutableBigInteger;)I" } : Jvm.MethodName) jdk_2101_method_50_code (8 : Nat) (Option.some Jvm.ClassFile.FieldType.int)).before args0 about1 = true := code_word (m := ⟨7, 12⟩) (meth := k7m12) (c := k7c12) (by decide +kernel) rfl rfl rfl (by decide +kernel)
set_option maxRecDepth 65536 in
theorem w_c46 : (Jvm.Cond.code ({ cls := "java/math/MutableBigInteger", name := "normalize", desc := "()V" } : Jvm.MethodName) jdk_2101_method_21_code (4 : Nat) (Option.none : Option Jvm.ClassFile.FieldType)).before args0 about1 = true := code_word (m := ⟨7, 8⟩) (meth := k7m8) (c := k7c8) (by decide +kernel) rfl rfl rfl (by decide +kernel)
set_option maxRecDepth 65536 in
theorem w_c47 : (Jvm.Cond.code ({ cls := "java/math/MutableBigInteger", name := "primitiveLeftShift", desc := "(I)V" } : Jvm.MethodName) jdk_2101_method_42_code (8 : Nat) (Option.none : Option Jvm.ClassFile.FieldType)).before args0 about1 = true := code_word (m := ⟨7, 11⟩) (meth := k7m11) (c := k7c11) (by decide +kernel) rfl rfl rfl (by decide +kernel)
set_option maxRecDepth 65536 in
theorem w_c48 : (Jvm.Cond.code ({ cls := "java/math/BigInteger", name := "abs", desc := "()Ljava/math/BigInteger;" } : Jvm.MethodName) jdk_2097_method_79_code (1 : Nat) (Option.some (Jvm.ClassFile.FieldType.object "java/math/BigInteger"))).before args0 about1 = true := code_word (m := ⟨6, 10⟩) (meth := k6m10) (c := k6c10) (by decide +kernel) rfl rfl rfl (by decide +kernel)
def codes1 : List Jvm.Cond := [Jvm.Cond.code x code maxLocals ret, Jvm.Cond.code ({ cls := "com/example/varuna/varuna/Rational", name := "of", desc := "(J)Lcom/example/varuna/varuna/Rational;" } : Jvm.MethodName) prog_5_method_2_code (2 : Nat) (Option.some (Jvm.ClassFile.FieldType.object "com/example/varuna/varuna/Rational")), Jvm.Cond.code ({ cls := "java/math/BigInteger", name := "valueOf", desc := "(J)Ljava/math/BigInteger;" } : Jvm.MethodName) jdk_2097_method_29_code (2 : Nat) (Option.some (Jvm.ClassFile.FieldType.object "java/math/BigInteger")), Jvm.Cond.code ({ cls := "com/example/varuna/varuna/Rational", name := "<init>", desc := "(Ljava/math/BigInteger;Ljava/math/BigInteger;)V" } : Jvm.MethodName) prog_5_method_1_code (3 : Nat) (Option.none : Option Jvm.ClassFile.FieldType), Jvm.Cond.code ({ cls := "java/lang/Object", name := "<init>", desc := "()V" } : Jvm.MethodName) object_method_1_code (1 : Nat) (Option.none : Option Jvm.ClassFile.FieldType), Jvm.Cond.code ({ cls := "com/example/varuna/varuna/Rational", name := "of", desc := "(JJ)Lcom/example/varuna/varuna/Rational;" } : Jvm.MethodName) prog_5_method_3_code (4 : Nat) (Option.some (Jvm.ClassFile.FieldType.object "com/example/varuna/varuna/Rational")), Jvm.Cond.code ({ cls := "com/example/varuna/varuna/Rational", name := "of", desc := "(Ljava/math/BigInteger;Ljava/math/BigInteger;)Lcom/example/varuna/varuna/Rational;" } : Jvm.MethodName) prog_5_method_4_code (3 : Nat) (Option.some (Jvm.ClassFile.FieldType.object "com/example/varuna/varuna/Rational")), Jvm.Cond.code ({ cls := "java/math/BigInteger", name := "signum", desc := "()I" } : Jvm.MethodName) jdk_2097_method_81_code (1 : Nat) (Option.some Jvm.ClassFile.FieldType.int), Jvm.Cond.code ({ cls := "java/math/BigInteger", name := "gcd", desc := "(Ljava/math/BigInteger;)Ljava/math/BigInteger;" } : Jvm.MethodName) jdk_2097_method_73_code (5 : Nat) (Option.some (Jvm.ClassFile.FieldType.object "java/math/BigInteger")), Jvm.Cond.code ({ cls := "java/math/MutableBigInteger", name := "<init>", desc := "(Ljava/math/BigInteger;)V" } : Jvm.MethodName) jdk_2101_method_4_code (2 : Nat) (Option.none : Option Jvm.ClassFile.FieldType), Jvm.Cond.code ({ cls := "java/util/Arrays", name := "copyOf", desc := "([II)[I" } : Jvm.MethodName) jdk_65_method_123_code (3 : Nat) (Option.some (Jvm.ClassFile.FieldType.array Jvm.ClassFile.FieldType.int)), Jvm.Cond.code ({ cls := "java/math/MutableBigInteger", name := "hybridGCD", desc := "(Ljava/math/MutableBigInteger;)Ljava/math/MutableBigInteger;" } : Jvm.MethodName) jdk_2101_method_72_code (5 : Nat) (Option.some (Jvm.ClassFile.FieldType.object "java/math/MutableBigInteger")), Jvm.Cond.code ({ cls := "java/math/MutableBigInteger", name := "<init>", desc := "()V" } : Jvm.MethodName) jdk_2101_method_1_code (1 : Nat) (Option.none : Option Jvm.ClassFile.FieldType), Jvm.Cond.code ({ cls := "java/lang/Math", name := "abs", desc := "(I)I" } : Jvm.MethodName) jdk_29_method_59_code (1 : Nat) (Option.some Jvm.ClassFile.FieldType.int), Jvm.Cond.code ({ cls := "java/math/MutableBigInteger", name := "binaryGCD", desc := "(Ljava/math/MutableBigInteger;)Ljava/math/MutableBigInteger;" } : Jvm.MethodName) jdk_2101_method_73_code (13 : Nat) (Option.some (Jvm.ClassFile.FieldType.object "java/math/MutableBigInteger")), Jvm.Cond.code ({ cls := "java/math/MutableBigInteger", name := "getLowestSetBit", desc := "()I" } : Jvm.MethodName) jdk_2101_method_18_code (3 : Nat) (Option.some Jvm.ClassFile.FieldType.int), Jvm.Cond.code ({ cls := "java/lang/Integer", name := "numberOfTrailingZeros", desc := "(I)I" } : Jvm.MethodName) jdk_33_method_48_code (2 : Nat) (Option.some Jvm.ClassFile.FieldType.int), Jvm.Cond.code ({ cls := "java/math/MutableBigInteger", name := "rightShift", desc := "(I)V" } : Jvm.MethodName) jdk_2101_method_35_code (5 : Nat) (Option.none : Option Jvm.ClassFile.FieldType), Jvm.Cond.code ({ cls := "java/math/MutableBigInteger", name := "binaryGcd", desc := "(II)I" } : Jvm.MethodName) jdk_2101_method_74_code (5 : Nat) (Option.some Jvm.ClassFile.FieldType.int), Jvm.Cond.code ({ cls := "java/math/MutableBigInteger", name := "toBigInteger", desc := "(I)Ljava/math/BigInteger;" } : Jvm.MethodName) jdk_2101_method_9_code (2 : Nat) (Option.some (Jvm.ClassFile.FieldType.object "java/math/BigInteger")), Jvm.Cond.code ({ cls := "java/math/MutableBigInteger", name := "getMagnitudeArray", desc := "()[I" } : Jvm.MethodName) jdk_2101_method_7_code (2 : Nat) (Option.some (Jvm.ClassFile.FieldType.array Jvm.ClassFile.FieldType.int)), Jvm.Cond.code ({ cls := "java/math/BigInteger", name := "<init>", desc := "([II)V" } : Jvm.MethodName) jdk_2097_method_25_code (3 : Nat) (Option.none : Option Jvm.ClassFile.FieldType), Jvm.Cond.code ({ cls := "java/lang/Number", name := "<init>", desc := "()V" } : Jvm.MethodName) jdk_18_method_1_code (1 : Nat) (Option.none : Option Jvm.ClassFile.FieldType), Jvm.Cond.code ({ cls := "java/math/BigInteger", name := "divide", desc := "(Ljava/math/BigInteger;)Ljava/math/BigInteger;" } : Jvm.MethodName) jdk_2097_method_61_code (2 : Nat) (Option.some (Jvm.ClassFile.FieldType.object "java/math/BigInteger")), Jvm.Cond.code ({ cls := "java/math/BigInteger", name := "divideKnuth", desc := "(Ljava/math/BigInteger;)Ljava/math/BigInteger;" } : Jvm.MethodName) jdk_2097_method_62_code (5 : Nat) (Option.some (Jvm.ClassFile.FieldType.object "java/math/BigInteger")), Jvm.Cond.code ({ cls := "java/math/MutableBigInteger", name := "<init>", desc := "([I)V" } : Jvm.MethodName) jdk_2101_method_3_code (2 : Nat) (Option.none : Option Jvm.ClassFile.FieldType), Jvm.Cond.code ({ cls := "java/math/MutableBigInteger", name := "divideKnuth", desc := "(Ljava/math/MutableBigInteger;Ljava/math/MutableBigInteger;Z)Ljava/math/MutableBigInteger;" } : Jvm.MethodName) jdk_2101_method_57_code (8 : Nat) (Option.some (Jvm.ClassFile.FieldType.object "java/math/MutableBigInteger")), Jvm.Cond.code ({ cls := "java/math/MutableBigInteger", name := "compare", desc := "(Ljava/math/MutableBigInteger;)I" } : Jvm.MethodName) jdk_2101_method_15_code (8 : Nat) (Option.some Jvm.ClassFile.FieldType.int), Jvm.Cond.code ({ cls := "java/math/MutableBigInteger", name := "clear", desc := "()V" } : Jvm.MethodName) jdk_2101_method_13_code (3 : Nat) (Option.none : Option Jvm.ClassFile.FieldType), Jvm.Cond.code ({ cls := "java/math/MutableBigInteger", name := "divideOneWord", desc := "(ILjava/math/MutableBigInteger;)I" } : Jvm.MethodName) jdk_2101_method_53_code (15 : Nat) (Option.some Jvm.ClassFile.FieldType.int), Jvm.Cond.code ({ cls := "com/example/varuna/varuna/Rational", name := "equals", desc := "(Ljava/lang/Object;)Z" } : Jvm.MethodName) prog_5_method_23_code (2 : Nat) (Option.some Jvm.ClassFile.FieldType.boolean), Jvm.Cond.code ({ cls := "java/math/BigInteger", name := "equals", desc := "(Ljava/lang/Object;)Z" } : Jvm.MethodName) jdk_2097_method_124_code (7 : Nat) (Option.some Jvm.ClassFile.FieldType.boolean), Jvm.Cond.code ({ cls := "com/example/varuna/varuna/Rational", name := "compareTo", desc := "(Lcom/example/varuna/varuna/Rational;)I" } : Jvm.MethodName) prog_5_method_22_code (2 : Nat) (Option.some Jvm.ClassFile.FieldType.int), Jvm.Cond.code ({ cls := "java/math/BigInteger", name := "multiply", desc := "(Ljava/math/BigInteger;)Ljava/math/BigInteger;" } : Jvm.MethodName) jdk_2097_method_40_code (2 : Nat) (Option.some (Jvm.ClassFile.FieldType.object "java/math/BigInteger")), Jvm.Cond.code ({ cls := "java/math/BigInteger", name := "multiply", desc := "(Ljava/math/BigInteger;ZZI)Ljava/math/BigInteger;" } : Jvm.MethodName) jdk_2097_method_42_code (9 : Nat) (Option.some (Jvm.ClassFile.FieldType.object "java/math/BigInteger")), Jvm.Cond.code ({ cls := "java/math/BigInteger", name := "multiplyByInt", desc := "([III)Ljava/math/BigInteger;" } : Jvm.MethodName) jdk_2097_method_43_code (13 : Nat) (Option.some (Jvm.ClassFile.FieldType.object "java/math/BigInteger")), Jvm.Cond.code ({ cls := "java/lang/Integer", name := "bitCount", desc := "(I)I" } : Jvm.MethodName) jdk_33_method_49_code (1 : Nat) (Option.some Jvm.ClassFile.FieldType.int), Jvm.Cond.code ({ cls := "java/math/BigInteger", name := "shiftLeft", desc := "([II)[I" } : Jvm.MethodName) jdk_2097_method_102_code (10 : Nat) (Option.some (Jvm.ClassFile.FieldType.array Jvm.ClassFile.FieldType.int)), Jvm.Cond.code ({ cls := "java/math/BigInteger", name := "compareTo", desc := "(Ljava/math/BigInteger;)I" } : Jvm.MethodName) jdk_2097_method_121_code (2 : Nat) (Option.some Jvm.ClassFile.FieldType.int), Jvm.Cond.code ({ cls := "java/math/BigInteger", name := "compareMagnitude", desc := "(Ljava/math/BigInteger;)I" } : Jvm.MethodName) jdk_2097_method_122_code (9 : Nat) (Option.some Jvm.ClassFile.FieldType.int), Jvm.Cond.code ({ cls := "com/example/varuna/varuna/Rational", name := "signum", desc := "()I" } : Jvm.MethodName) prog_5_method_11_code (1 : Nat) (Option.some Jvm.ClassFile.FieldType.int), Jvm.Cond.code ({ cls := "java/math/BigInteger", name := "<init>", desc := "(J)V" } : Jvm.MethodName) jdk_2097_method_30_code (4 : Nat) (Option.none : Option Jvm.ClassFile.FieldType), Jvm.Cond.code ({ cls := "java/math/BigInteger", name := "bitLengthForInt", desc := "(I)I" } : Jvm.MethodName) jdk_2097_method_74_code (1 : Nat) (Option.some Jvm.ClassFile.FieldType.int), Jvm.Cond.code ({ cls := "java/lang/Integer", name := "numberOfLeadingZeros", desc := "(I)I" } : Jvm.MethodName) jdk_33_method_47_code (2 : Nat) (Option.some Jvm.ClassFile.FieldType.int), Jvm.Cond.code ({ cls := "java/math/MutableBigInteger", name := "primitiveRightShift", desc := "(I)V" } : Jvm.MethodName) jdk_2101_method_41_code (7 : Nat) (Option.none : Option Jvm.ClassFile.FieldType), Jvm.Cond.code ({ cls := "java/math/MutableBigInteger", name := "difference", desc := "(Ljava/math/MutableBigInteger;)I" } : Jvm.MethodName) jdk_2101_method_50_code (8 : Nat) (Option.some Jvm.ClassFile.FieldType.int), Jvm.Cond.code ({ cls := "java/math/MutableBigInteger", name := "normalize", desc := "()V" } : Jvm.MethodName) jdk_2101_method_21_code (4 : Nat) (Option.none : Option Jvm.ClassFile.FieldType), Jvm.Cond.code ({ cls := "java/math/MutableBigInteger", name := "primitiveLeftShift", desc := "(I)V" } : Jvm.MethodName) jdk_2101_method_42_code (8 : Nat) (Option.none : Option Jvm.ClassFile.FieldType), Jvm.Cond.code ({ cls := "java/math/BigInteger", name := "abs", desc := "()Ljava/math/BigInteger;" } : Jvm.MethodName) jdk_2097_method_79_code (1 : Nat) (Option.some (Jvm.ClassFile.FieldType.object "java/math/BigInteger"))]
set_option maxRecDepth 65536 in
theorem codes_eq : words1.filter isCode = codes1 := rfl
theorem w_codes : ∀ c ∈ words1.filter isCode, c.before args0 about1 = true := by
  rw [codes_eq]
  intro c hc
  simp only [codes1, List.mem_cons, List.not_mem_nil, or_false] at hc
  rcases hc with rfl | rfl | rfl | rfl | rfl | rfl | rfl | rfl | rfl | rfl | rfl | rfl | rfl | rfl | rfl | rfl | rfl | rfl | rfl | rfl | rfl | rfl | rfl | rfl | rfl | rfl | rfl | rfl | rfl | rfl | rfl | rfl | rfl | rfl | rfl | rfl | rfl | rfl | rfl | rfl | rfl | rfl | rfl | rfl | rfl | rfl | rfl | rfl | rfl
  · exact w_c0
  · exact w_c1
  · exact w_c2
  · exact w_c3
  · exact w_c4
  · exact w_c5
  · exact w_c6
  · exact w_c7
  · exact w_c8
  · exact w_c9
  · exact w_c10
  · exact w_c11
  · exact w_c12
  · exact w_c13
  · exact w_c14
  · exact w_c15
  · exact w_c16
  · exact w_c17
  · exact w_c18
  · exact w_c19
  · exact w_c20
  · exact w_c21
  · exact w_c22
  · exact w_c23
  · exact w_c24
  · exact w_c25
  · exact w_c26
  · exact w_c27
  · exact w_c28
  · exact w_c29
  · exact w_c30
  · exact w_c31
  · exact w_c32
  · exact w_c33
  · exact w_c34
  · exact w_c35
  · exact w_c36
  · exact w_c37
  · exact w_c38
  · exact w_c39
  · exact w_c40
  · exact w_c41
  · exact w_c42
  · exact w_c43
  · exact w_c44
  · exact w_c45
  · exact w_c46
  · exact w_c47
  · exact w_c48
set_option maxRecDepth 65536 in
theorem w_t1 : (words1.take 24).all (fun c => isCode c || c.before args0 about1) = true := by decide +kernel
set_option maxRecDepth 65536 in
theorem w_t2 : ((words1.drop 24).take 24).all (fun c => isCode c || c.before args0 about1) = true := by decide +kernel
set_option maxRecDepth 65536 in
theorem w_t3 : (((words1.drop 24).drop 24).take 24).all (fun c => isCode c || c.before args0 about1) = true := by decide +kernel
set_option maxRecDepth 65536 in
theorem w_t4 : ((((words1.drop 24).drop 24).drop 24).take 24).all (fun c => isCode c || c.before args0 about1) = true := by decide +kernel
set_option maxRecDepth 65536 in
theorem w_t5 : (((((words1.drop 24).drop 24).drop 24).drop 24).take 24).all (fun c => isCode c || c.before args0 about1) = true := by decide +kernel
set_option maxRecDepth 65536 in
theorem w_t6 : ((((((words1.drop 24).drop 24).drop 24).drop 24).drop 24).take 24).all (fun c => isCode c || c.before args0 about1) = true := by decide +kernel
set_option maxRecDepth 65536 in
theorem w_t7 : (((((((words1.drop 24).drop 24).drop 24).drop 24).drop 24).drop 24).take 24).all (fun c => isCode c || c.before args0 about1) = true := by decide +kernel
set_option maxRecDepth 65536 in
theorem w_t8 : ((((((((words1.drop 24).drop 24).drop 24).drop 24).drop 24).drop 24).drop 24).take 24).all (fun c => isCode c || c.before args0 about1) = true := by decide +kernel
set_option maxRecDepth 65536 in
theorem w_t9 : (((((((((words1.drop 24).drop 24).drop 24).drop 24).drop 24).drop 24).drop 24).drop 24).take 24).all (fun c => isCode c || c.before args0 about1) = true := by decide +kernel
set_option maxRecDepth 65536 in
theorem w_t10 : ((((((((((words1.drop 24).drop 24).drop 24).drop 24).drop 24).drop 24).drop 24).drop 24).drop 24).take 24).all (fun c => isCode c || c.before args0 about1) = true := by decide +kernel
set_option maxRecDepth 65536 in
theorem w_t11 : (((((((((((words1.drop 24).drop 24).drop 24).drop 24).drop 24).drop 24).drop 24).drop 24).drop 24).drop 24).take 24).all (fun c => isCode c || c.before args0 about1) = true := by decide +kernel
set_option maxRecDepth 65536 in
theorem w_t12 : (((((((((((words1.drop 24).drop 24).drop 24).drop 24).drop 24).drop 24).drop 24).drop 24).drop 24).drop 24).drop 24).all (fun c => isCode c || c.before args0 about1) = true := by decide +kernel
theorem w_tables : (allAtoms (Jvm.Cond.code x code maxLocals ret :: tables_1)).before args0 about1 = true := by
  rw [allAtoms_all]
  show words1.all (fun c => c.before args0 about1) = true
  refine all_split ?_ w_codes
  rw [← List.take_append_drop 24 words1, List.all_append, w_t1, ← List.take_append_drop 24 (words1.drop 24), List.all_append, w_t2, ← List.take_append_drop 24 ((words1.drop 24).drop 24), List.all_append, w_t3, ← List.take_append_drop 24 (((words1.drop 24).drop 24).drop 24), List.all_append, w_t4, ← List.take_append_drop 24 ((((words1.drop 24).drop 24).drop 24).drop 24), List.all_append, w_t5, ← List.take_append_drop 24 (((((words1.drop 24).drop 24).drop 24).drop 24).drop 24), List.all_append, w_t6, ← List.take_append_drop 24 ((((((words1.drop 24).drop 24).drop 24).drop 24).drop 24).drop 24), List.all_append, w_t7, ← List.take_append_drop 24 (((((((words1.drop 24).drop 24).drop 24).drop 24).drop 24).drop 24).drop 24), List.all_append, w_t8, ← List.take_append_drop 24 ((((((((words1.drop 24).drop 24).drop 24).drop 24).drop 24).drop 24).drop 24).drop 24), List.all_append, w_t9, ← List.take_append_drop 24 (((((((((words1.drop 24).drop 24).drop 24).drop 24).drop 24).drop 24).drop 24).drop 24).drop 24), List.all_append, w_t10, ← List.take_append_drop 24 ((((((((((words1.drop 24).drop 24).drop 24).drop 24).drop 24).drop 24).drop 24).drop 24).drop 24).drop 24), List.all_append, w_t11, w_t12]
  rfl
set_option maxRecDepth 65536 in
theorem w_rest : rest_1_c.before args0 about1 = true := by decide +kernel
set_option maxRecDepth 65536 in
theorem w_case : (Jvm.Cond.and given_1 narrow_1).before args0 about1 = true := by decide +kernel
theorem w_applies : (headSpec (Jvm.Cond.code x code maxLocals ret :: tables_1) room_1).applies x e0.platform about1 = true :=
  (Spec.applies_iff w_frames).mpr ⟨w_running, w_runnable, w_alone, w_named, w_hears, w_ripe, w_room, w_tables⟩
theorem atStart : AtStart classFile x code maxLocals ret World_1 tables_1 room_1 Calls_1 rest_1 Pre_1 launch0 p0 e0 about1 theMethod args0 below0 :=
  ⟨lists_1, trivial, launch0.admits_env _ _ _, launch0.least_env, fairChoices_fair.cas, fairChoices_fair.clock, w_frames, w_args, w_heap, w_applies, trivial, w_rest, w_case⟩
end start1
theorem witness_1 : WitnessClaimed_1 := ⟨start1.p0, start1.e0, start1.about1, start1.theMethod, start1.args0, start1.below0, start1.atStart⟩
end Jvm.Pilot.@@N@@
