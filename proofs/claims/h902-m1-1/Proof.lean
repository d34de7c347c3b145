import JvmDerived
import JvmDerived.Pilot.@@N@@Statement
import JvmDerived.Pilot.@@N@@Code
set_option linter.unusedVariables false
set_option linter.unusedSimpArgs false
namespace Jvm.Pilot.@@N@@
open Jvm Jvm.ClassFile Sem Op Lib Jvm.Free Jvm.Stand Jvm.LawKit Jvm.RoadKit Bundle Jvm.Pilot.@@N@@.Jvm.D
namespace Ow
/-! A small logic of walks: Wq says: from every state that stands at pc with these locals, this stack and this heap, the body runs to its end and Post holds there. -/
def Cx (l : Launch) (nw : Bool) (Z : State) (EL : List (String × Nat)) (a0 : Array Value) (n0 : Nat) (y : MethodName) (B : ByteArray) (ml : Nat) (ret : Option FieldType) (R : Room) (h0 : Heap) (fs : List Addr) (h : Heap) (ce sl : Nat)
    (p : Program) (e : Env) (s : State) (m : MethodId) (args : Array Value) (below : List Frame) (meth : Method) (c : Code) (T : State) (locs : List Loc) (vm : Vm) (k : Nat) : Prop :=
  (p.tables.exec = Jvm.exec ∧ c.code = B ∧ c.maxLocals = ml ∧ meth.sig.returnType = ret ∧ meth.locks = false ∧ meth.name = y.name ∧ vm.findClass y.cls = some m.cls ∧ s.heap = h0) ∧
  (Z.Warmed39 vm ∧ (∀ d ∈ tables_1, d.before a0 Z = true) ∧ EW Z a0 EL ∧ (nw = true → vm = s.vm ∧ EL = [])) ∧
  Stand p l e R (s.setVm vm) m args below meth c T locs ce sl ∧ T.heap = h ∧ (Fr n0 locs ∧ Old Z n0 h) ∧ (s.Since vm k ∧ k ≤ h.size) ∧ CHr Z EL s.vm h0 vm h ∧ ∀ x ∈ fs, n0 ≤ x ∧ x < h.size ∧ Safe Z EL vm h x
def Fn (nw : Bool) (Z : State) (EL : List (String × Nat)) (n0 : Nat) (R : Room) (h0 : Heap) (Post : Option Value → Heap → Prop) (p : Program) (e : Env) (s : State) (below : List Frame) (t : State) : Prop :=
  ∃ s₂ o, Steps p.tables e below t s₂ ∧ s₂.status = .running ∧ Ended s₂ below o ∧ ∃ v L, o = .returned v ∧ Post v s₂.heap ∧ (Fr n0 L ∧ Old Z n0 s₂.heap) ∧ CHr Z EL s.vm h0 s₂.vm s₂.heap ∧ ReturnedEndW s o s₂ L R.cells R.slots ∧ (nw = true → s.WarmedH s₂.vm)
def Wq (l : Launch) (nw : Bool) (Z : State) (EL : List (String × Nat)) (a0 : Array Value) (n0 : Nat) (y : MethodName) (B : ByteArray) (ml : Nat) (ret : Option FieldType) (R : Room) (h0 : Heap) (Post : Option Value → Heap → Prop) (fs : List Addr) (h : Heap) (ce sl pc : Nat) (L : Array Slot) (S : List Value) : Prop :=
  ∀ (p : Program) (e : Env) (s : State) (m : MethodId) (args : Array Value) (below : List Frame) (meth : Method) (c : Code) (T : State) (locs : List Loc) (vm : Vm) (k : Nat),
    Cx l nw Z EL a0 n0 y B ml ret R h0 fs h ce sl p e s m args below meth c T locs vm k → Fn nw Z EL n0 R h0 Post p e s below (T.setTop (mkF m pc L S))
section Rules
variable {l : Launch} {nw : Bool} {Z : State} {EL : List (String × Nat)} {a0 : Array Value} {n0 : Nat} {y : MethodName} {B : ByteArray} {ml : Nat} {ret : Option FieldType} {R : Room} {h0 : Heap} {Post : Option Value → Heap → Prop} {fs : List Addr} {h : Heap} {ce sl pc pc' : Nat} {L : Array Slot} {S : List Value}
theorem Fn.st {p : Program} {e : Env} {s : State} {below : List Frame} {t t' : State} (st : ∀ u, Steps p.tables e below t' u → Steps p.tables e below t u) (K : Fn nw Z EL n0 R h0 Post p e s below t') : Fn nw Z EL n0 R h0 Post p e s below t := by
  obtain ⟨s₂, o, h1, r⟩ := K
  exact ⟨s₂, o, st _ h1, r⟩
theorem pu {L' : Array Slot} {S' : List Value} (st : ∀ {p : Program} {e : Env} {m : MethodId} {below : List Frame} {c : Code} {T t : State}, At T m c below → p.tables.exec = Jvm.exec → c.code = B → Steps p.tables e below (T.setTop (mkF m pc' L' S')) t → Steps p.tables e below (T.setTop (mkF m pc L S)) t)
    (K : Wq l nw Z EL a0 n0 y B ml ret R h0 Post fs h ce sl pc' L' S') : Wq l nw Z EL a0 n0 y B ml ret R h0 Post fs h ce sl pc L S := fun p e s m args below meth c T locs vm k C =>
  (K p e s m args below meth c T locs vm k C).st fun u q => st C.2.2.1.here C.1.1 C.1.2.1 q
/-- cells and slots may be counted higher -/
theorem more {ce' sl' : Nat} (hc : ce ≤ ce') (hs : sl ≤ sl') (K : Wq l nw Z EL a0 n0 y B ml ret R h0 Post fs h ce' sl' pc L S) : Wq l nw Z EL a0 n0 y B ml ret R h0 Post fs h ce sl pc L S := fun p e s m args below meth c T locs vm k C =>
  K p e s m args below meth c T locs vm k ⟨C.1, C.2.1, C.2.2.1.more hc hs, C.2.2.2⟩
theorem fewer {fs' : List Addr} (hf : ∀ x ∈ fs', x ∈ fs) (K : Wq l nw Z EL a0 n0 y B ml ret R h0 Post fs' h ce sl pc L S) : Wq l nw Z EL a0 n0 y B ml ret R h0 Post fs h ce sl pc L S := fun p e s m args below meth c T locs vm k C =>
  K p e s m args below meth c T locs vm k ⟨C.1, C.2.1, C.2.2.1, C.2.2.2.1, C.2.2.2.2.1, C.2.2.2.2.2.1, C.2.2.2.2.2.2.1, fun x hx => C.2.2.2.2.2.2.2 x (hf x hx)⟩
theorem at' {L' : Array Slot} {S' : List Value} {ce' sl' : Nat} (e4 : ce = ce') (e5 : sl = sl') (e1 : pc = pc') (e2 : L = L') (e3 : S = S') (K : Wq l nw Z EL a0 n0 y B ml ret R h0 Post fs h ce' sl' pc' L' S') : Wq l nw Z EL a0 n0 y B ml ret R h0 Post fs h ce sl pc L S := by subst e1 e2 e3 e4 e5; exact K
/-- the words of the sheet, at hand in the walk -/
theorem words (K : (∀ d ∈ tables_1, d.before a0 Z = true) → Wq l nw Z EL a0 n0 y B ml ret R h0 Post fs h ce sl pc L S) : Wq l nw Z EL a0 n0 y B ml ret R h0 Post fs h ce sl pc L S := fun p e s m args below meth c T locs vm k C => K C.2.1.2.1 p e s m args below meth c T locs vm k C
theorem ews (K : (∀ d ∈ tables_1, d.before a0 Z = true) → EW Z a0 EL → Wq l nw Z EL a0 n0 y B ml ret R h0 Post fs h ce sl pc L S) : Wq l nw Z EL a0 n0 y B ml ret R h0 Post fs h ce sl pc L S := fun p e s m args below meth c T locs vm k C => K C.2.1.2.1 C.2.1.2.2.1 p e s m args below meth c T locs vm k C
theorem fsz (K : (∀ x ∈ fs, n0 ≤ x ∧ x < h.size) → Wq l nw Z EL a0 n0 y B ml ret R h0 Post fs h ce sl pc L S) : Wq l nw Z EL a0 n0 y B ml ret R h0 Post fs h ce sl pc L S := fun p e s m args below meth c T locs vm k C => K (fun x q => ⟨(C.2.2.2.2.2.2.2 x q).1, (C.2.2.2.2.2.2.2 x q).2.1⟩) p e s m args below meth c T locs vm k C
theorem old (K : Old Z n0 h → h0.size ≤ h.size → Wq l nw Z EL a0 n0 y B ml ret R h0 Post fs h ce sl pc L S) : Wq l nw Z EL a0 n0 y B ml ret R h0 Post fs h ce sl pc L S := fun p e s m args below meth c T locs vm k C => K C.2.2.2.2.1.2 C.2.2.2.2.2.2.1.2.1 p e s m args below meth c T locs vm k C
theorem iload {j : Nat} {v : Int32} (hd : decode B pc = .ok (.iload j, 2)) (hl : L[j]? = some (.val (.int v))) (hp : pc + 2 = pc') (K : Wq l nw Z EL a0 n0 y B ml ret R h0 Post fs h ce sl pc' L (.int v :: S)) : Wq l nw Z EL a0 n0 y B ml ret R h0 Post fs h ce sl pc L S :=
  pu (fun h hx hb q => by subst hp; exact XS.iload h hx rfl (Jvm.hb hb hd) hl q) K
theorem iloadN {j : Fin 4} {v : Int32} (hd : decode B pc = .ok (.iload_n j, 1)) (hl : L[j.val]? = some (.val (.int v))) (hp : pc + 1 = pc') (K : Wq l nw Z EL a0 n0 y B ml ret R h0 Post fs h ce sl pc' L (.int v :: S)) : Wq l nw Z EL a0 n0 y B ml ret R h0 Post fs h ce sl pc L S :=
  pu (fun h hx hb q => by subst hp; exact XS.iloadN h hx rfl (Jvm.hb hb hd) hl q) K
theorem lload {j : Nat} {v : Int64} (hd : decode B pc = .ok (.lload j, 2)) (hl : L[j]? = some (.val (.long v))) (hp : pc + 2 = pc') (K : Wq l nw Z EL a0 n0 y B ml ret R h0 Post fs h ce sl pc' L (.long v :: S)) : Wq l nw Z EL a0 n0 y B ml ret R h0 Post fs h ce sl pc L S :=
  pu (fun h hx hb q => by subst hp; exact XS.lload h hx rfl (Jvm.hb hb hd) hl q) K
theorem lloadN {j : Fin 4} {v : Int64} (hd : decode B pc = .ok (.lload_n j, 1)) (hl : L[j.val]? = some (.val (.long v))) (hp : pc + 1 = pc') (K : Wq l nw Z EL a0 n0 y B ml ret R h0 Post fs h ce sl pc' L (.long v :: S)) : Wq l nw Z EL a0 n0 y B ml ret R h0 Post fs h ce sl pc L S :=
  pu (fun h hx hb q => by subst hp; exact XS.lloadN h hx rfl (Jvm.hb hb hd) hl q) K
theorem dload {j : Nat} {v : UInt64} (hd : decode B pc = .ok (.dload j, 2)) (hl : L[j]? = some (.val (.double v))) (hp : pc + 2 = pc') (K : Wq l nw Z EL a0 n0 y B ml ret R h0 Post fs h ce sl pc' L (.double v :: S)) : Wq l nw Z EL a0 n0 y B ml ret R h0 Post fs h ce sl pc L S :=
  pu (fun h hx hb q => by subst hp; exact Jvm.Free.XS.dload h hx rfl (Jvm.hb hb hd) hl q) K
theorem dloadN {j : Fin 4} {v : UInt64} (hd : decode B pc = .ok (.dload_n j, 1)) (hl : L[j.val]? = some (.val (.double v))) (hp : pc + 1 = pc') (K : Wq l nw Z EL a0 n0 y B ml ret R h0 Post fs h ce sl pc' L (.double v :: S)) : Wq l nw Z EL a0 n0 y B ml ret R h0 Post fs h ce sl pc L S :=
  pu (fun h hx hb q => by subst hp; exact XS.dloadN h hx rfl (Jvm.hb hb hd) hl q) K
theorem aload {j : Nat} {v : Value} (hd : decode B pc = .ok (.aload j, 2)) (hl : L[j]? = some (.val v)) (hv : v.isRef = true) (hp : pc + 2 = pc') (K : Wq l nw Z EL a0 n0 y B ml ret R h0 Post fs h ce sl pc' L (v :: S)) : Wq l nw Z EL a0 n0 y B ml ret R h0 Post fs h ce sl pc L S :=
  pu (fun h hx hb q => by subst hp; exact XS.aload h hx rfl (Jvm.hb hb hd) hl hv q) K
theorem aloadN {j : Fin 4} {v : Value} (hd : decode B pc = .ok (.aload_n j, 1)) (hl : L[j.val]? = some (.val v)) (hv : v.isRef = true) (hp : pc + 1 = pc') (K : Wq l nw Z EL a0 n0 y B ml ret R h0 Post fs h ce sl pc' L (v :: S)) : Wq l nw Z EL a0 n0 y B ml ret R h0 Post fs h ce sl pc L S :=
  pu (fun h hx hb q => by subst hp; exact XS.aloadN h hx rfl (Jvm.hb hb hd) hl hv q) K
theorem istore {j : Nat} {v : Int32} {L' : Array Slot} (hd : decode B pc = .ok (.istore j, 2)) (hl : storeLocals L j (.int v) = some L') (hp : pc + 2 = pc') (K : Wq l nw Z EL a0 n0 y B ml ret R h0 Post fs h ce sl pc' L' S) : Wq l nw Z EL a0 n0 y B ml ret R h0 Post fs h ce sl pc L (.int v :: S) :=
  pu (fun h hx hb q => by subst hp; exact XS.istore h hx rfl (Jvm.hb hb hd) rfl hl q) K
theorem istoreN {j : Fin 4} {v : Int32} {L' : Array Slot} (hd : decode B pc = .ok (.istore_n j, 1)) (hl : storeLocals L j.val (.int v) = some L') (hp : pc + 1 = pc') (K : Wq l nw Z EL a0 n0 y B ml ret R h0 Post fs h ce sl pc' L' S) : Wq l nw Z EL a0 n0 y B ml ret R h0 Post fs h ce sl pc L (.int v :: S) :=
  pu (fun h hx hb q => by subst hp; exact XS.istoreN h hx rfl (Jvm.hb hb hd) rfl hl q) K
theorem lstore {j : Nat} {v : Int64} {L' : Array Slot} (hd : decode B pc = .ok (.lstore j, 2)) (hl : storeLocals L j (.long v) = some L') (hp : pc + 2 = pc') (K : Wq l nw Z EL a0 n0 y B ml ret R h0 Post fs h ce sl pc' L' S) : Wq l nw Z EL a0 n0 y B ml ret R h0 Post fs h ce sl pc L (.long v :: S) :=
  pu (fun h hx hb q => by subst hp; exact XS.lstore h hx rfl (Jvm.hb hb hd) rfl hl q) K
theorem lstoreN {j : Fin 4} {v : Int64} {L' : Array Slot} (hd : decode B pc = .ok (.lstore_n j, 1)) (hl : storeLocals L j.val (.long v) = some L') (hp : pc + 1 = pc') (K : Wq l nw Z EL a0 n0 y B ml ret R h0 Post fs h ce sl pc' L' S) : Wq l nw Z EL a0 n0 y B ml ret R h0 Post fs h ce sl pc L (.long v :: S) :=
  pu (fun h hx hb q => by subst hp; exact XS.lstoreN h hx rfl (Jvm.hb hb hd) rfl hl q) K
theorem dstore {j : Nat} {v : UInt64} {L' : Array Slot} (hd : decode B pc = .ok (.dstore j, 2)) (hl : storeLocals L j (.double v) = some L') (hp : pc + 2 = pc') (K : Wq l nw Z EL a0 n0 y B ml ret R h0 Post fs h ce sl pc' L' S) : Wq l nw Z EL a0 n0 y B ml ret R h0 Post fs h ce sl pc L (.double v :: S) :=
  pu (fun h hx hb q => by subst hp; exact XS.dstore h hx rfl (Jvm.hb hb hd) rfl hl q) K
theorem dstoreN {j : Fin 4} {v : UInt64} {L' : Array Slot} (hd : decode B pc = .ok (.dstore_n j, 1)) (hl : storeLocals L j.val (.double v) = some L') (hp : pc + 1 = pc') (K : Wq l nw Z EL a0 n0 y B ml ret R h0 Post fs h ce sl pc' L' S) : Wq l nw Z EL a0 n0 y B ml ret R h0 Post fs h ce sl pc L (.double v :: S) :=
  pu (fun h hx hb q => by subst hp; exact XS.dstoreN h hx rfl (Jvm.hb hb hd) rfl hl q) K
theorem astore {j : Nat} {v : Value} {L' : Array Slot} (hd : decode B pc = .ok (.astore j, 2)) (hv : v.isRef = true) (hl : storeLocals L j v = some L') (hp : pc + 2 = pc') (K : Wq l nw Z EL a0 n0 y B ml ret R h0 Post fs h ce sl pc' L' S) : Wq l nw Z EL a0 n0 y B ml ret R h0 Post fs h ce sl pc L (v :: S) :=
  pu (fun h hx hb q => by subst hp; exact XS.astore h hx rfl (Jvm.hb hb hd) rfl hv hl q) K
theorem astoreN {j : Fin 4} {v : Value} {L' : Array Slot} (hd : decode B pc = .ok (.astore_n j, 1)) (hv : v.isRef = true) (hl : storeLocals L j.val v = some L') (hp : pc + 1 = pc') (K : Wq l nw Z EL a0 n0 y B ml ret R h0 Post fs h ce sl pc' L' S) : Wq l nw Z EL a0 n0 y B ml ret R h0 Post fs h ce sl pc L (v :: S) :=
  pu (fun h hx hb q => by subst hp; exact XS.astoreN h hx rfl (Jvm.hb hb hd) rfl hv hl q) K
theorem iconst {i : Int} {v : Int32} (hd : decode B pc = .ok (.iconst i, 1)) (hv : Int32.ofInt i = v) (hp : pc + 1 = pc') (K : Wq l nw Z EL a0 n0 y B ml ret R h0 Post fs h ce sl pc' L (.int v :: S)) : Wq l nw Z EL a0 n0 y B ml ret R h0 Post fs h ce sl pc L S :=
  pu (fun h hx hb q => by subst hp hv; exact XS.iconst h hx rfl (Jvm.hb hb hd) q) K
theorem bipush {i : Int} {v : Int32} (hd : decode B pc = .ok (.bipush i, 2)) (hv : (Int8.ofInt i).toInt32 = v) (hp : pc + 2 = pc') (K : Wq l nw Z EL a0 n0 y B ml ret R h0 Post fs h ce sl pc' L (.int v :: S)) : Wq l nw Z EL a0 n0 y B ml ret R h0 Post fs h ce sl pc L S :=
  pu (fun h hx hb q => by subst hp hv; exact XS.bipush h hx rfl (Jvm.hb hb hd) q) K
theorem sipush {i : Int} {v : Int32} (hd : decode B pc = .ok (.sipush i, 3)) (hv : (Int16.ofInt i).toInt32 = v) (hp : pc + 3 = pc') (K : Wq l nw Z EL a0 n0 y B ml ret R h0 Post fs h ce sl pc' L (.int v :: S)) : Wq l nw Z EL a0 n0 y B ml ret R h0 Post fs h ce sl pc L S :=
  pu (fun h hx hb q => by subst hp hv; exact XS.sipush h hx rfl (Jvm.hb hb hd) q) K
theorem lconst {j : Fin 2} {v : Int64} (hd : decode B pc = .ok (.lconst j, 1)) (hv : Int64.ofNat j = v) (hp : pc + 1 = pc') (K : Wq l nw Z EL a0 n0 y B ml ret R h0 Post fs h ce sl pc' L (.long v :: S)) : Wq l nw Z EL a0 n0 y B ml ret R h0 Post fs h ce sl pc L S :=
  pu (fun h hx hb q => by subst hp hv; exact XS.lconst h hx rfl (Jvm.hb hb hd) q) K
theorem aconst_null  (hd : decode B pc = .ok (.aconst_null, 1)) (hp : pc + 1 = pc') (K : Wq l nw Z EL a0 n0 y B ml ret R h0 Post fs h ce sl pc' L (.null :: S)) : Wq l nw Z EL a0 n0 y B ml ret R h0 Post fs h ce sl pc L S :=
  pu (fun h hx hb q => by subst hp; exact XS.aconstNull h hx rfl (Jvm.hb hb hd) q) K
theorem iadd {x z : Int32} (hd : decode B pc = .ok (.iadd, 1)) (hp : pc + 1 = pc') (K : Wq l nw Z EL a0 n0 y B ml ret R h0 Post fs h ce sl pc' L (.int (x + z) :: S)) : Wq l nw Z EL a0 n0 y B ml ret R h0 Post fs h ce sl pc L (.int z :: .int x :: S) :=
  pu (fun h hx hb q => by subst hp; exact XS.iadd h hx rfl (Jvm.hb hb hd) rfl q) K
theorem isub {x z : Int32} (hd : decode B pc = .ok (.isub, 1)) (hp : pc + 1 = pc') (K : Wq l nw Z EL a0 n0 y B ml ret R h0 Post fs h ce sl pc' L (.int (x - z) :: S)) : Wq l nw Z EL a0 n0 y B ml ret R h0 Post fs h ce sl pc L (.int z :: .int x :: S) :=
  pu (fun h hx hb q => by subst hp; exact XS.isub h hx rfl (Jvm.hb hb hd) rfl q) K
theorem imul {x z : Int32} (hd : decode B pc = .ok (.imul, 1)) (hp : pc + 1 = pc') (K : Wq l nw Z EL a0 n0 y B ml ret R h0 Post fs h ce sl pc' L (.int (x * z) :: S)) : Wq l nw Z EL a0 n0 y B ml ret R h0 Post fs h ce sl pc L (.int z :: .int x :: S) :=
  pu (fun h hx hb q => by subst hp; exact XS.imul h hx rfl (Jvm.hb hb hd) rfl q) K
theorem iand {x z : Int32} (hd : decode B pc = .ok (.iand, 1)) (hp : pc + 1 = pc') (K : Wq l nw Z EL a0 n0 y B ml ret R h0 Post fs h ce sl pc' L (.int (x &&& z) :: S)) : Wq l nw Z EL a0 n0 y B ml ret R h0 Post fs h ce sl pc L (.int z :: .int x :: S) :=
  pu (fun h hx hb q => by subst hp; exact XS.iand h hx rfl (Jvm.hb hb hd) rfl q) K
theorem ior {x z : Int32} (hd : decode B pc = .ok (.ior, 1)) (hp : pc + 1 = pc') (K : Wq l nw Z EL a0 n0 y B ml ret R h0 Post fs h ce sl pc' L (.int (x ||| z) :: S)) : Wq l nw Z EL a0 n0 y B ml ret R h0 Post fs h ce sl pc L (.int z :: .int x :: S) :=
  pu (fun h hx hb q => by subst hp; exact XS.ior h hx rfl (Jvm.hb hb hd) rfl q) K
theorem ixor {x z : Int32} (hd : decode B pc = .ok (.ixor, 1)) (hp : pc + 1 = pc') (K : Wq l nw Z EL a0 n0 y B ml ret R h0 Post fs h ce sl pc' L (.int (x ^^^ z) :: S)) : Wq l nw Z EL a0 n0 y B ml ret R h0 Post fs h ce sl pc L (.int z :: .int x :: S) :=
  pu (fun h hx hb q => by subst hp; exact XS.ixor h hx rfl (Jvm.hb hb hd) rfl q) K
theorem ishl {x z : Int32} (hd : decode B pc = .ok (.ishl, 1)) (hp : pc + 1 = pc') (K : Wq l nw Z EL a0 n0 y B ml ret R h0 Post fs h ce sl pc' L (.int (x <<< (z &&& 31)) :: S)) : Wq l nw Z EL a0 n0 y B ml ret R h0 Post fs h ce sl pc L (.int z :: .int x :: S) :=
  pu (fun h hx hb q => by subst hp; exact XS.ishl h hx rfl (Jvm.hb hb hd) rfl q) K
theorem ishr {x z : Int32} (hd : decode B pc = .ok (.ishr, 1)) (hp : pc + 1 = pc') (K : Wq l nw Z EL a0 n0 y B ml ret R h0 Post fs h ce sl pc' L (.int (x >>> (z &&& 31)) :: S)) : Wq l nw Z EL a0 n0 y B ml ret R h0 Post fs h ce sl pc L (.int z :: .int x :: S) :=
  pu (fun h hx hb q => by subst hp; exact XS.ishr h hx rfl (Jvm.hb hb hd) rfl q) K
theorem iushr {x z : Int32} (hd : decode B pc = .ok (.iushr, 1)) (hp : pc + 1 = pc') (K : Wq l nw Z EL a0 n0 y B ml ret R h0 Post fs h ce sl pc' L (.int ((x.toUInt32 >>> (z &&& 31).toUInt32).toInt32) :: S)) : Wq l nw Z EL a0 n0 y B ml ret R h0 Post fs h ce sl pc L (.int z :: .int x :: S) :=
  pu (fun h hx hb q => by subst hp; exact XS.iushr h hx rfl (Jvm.hb hb hd) rfl q) K
theorem ladd {x z : Int64} (hd : decode B pc = .ok (.ladd, 1)) (hp : pc + 1 = pc') (K : Wq l nw Z EL a0 n0 y B ml ret R h0 Post fs h ce sl pc' L (.long (x + z) :: S)) : Wq l nw Z EL a0 n0 y B ml ret R h0 Post fs h ce sl pc L (.long z :: .long x :: S) :=
  pu (fun h hx hb q => by subst hp; exact XS.ladd h hx rfl (Jvm.hb hb hd) rfl q) K
theorem lsub {x z : Int64} (hd : decode B pc = .ok (.lsub, 1)) (hp : pc + 1 = pc') (K : Wq l nw Z EL a0 n0 y B ml ret R h0 Post fs h ce sl pc' L (.long (x - z) :: S)) : Wq l nw Z EL a0 n0 y B ml ret R h0 Post fs h ce sl pc L (.long z :: .long x :: S) :=
  pu (fun h hx hb q => by subst hp; exact XS.lsub h hx rfl (Jvm.hb hb hd) rfl q) K
theorem lmul {x z : Int64} (hd : decode B pc = .ok (.lmul, 1)) (hp : pc + 1 = pc') (K : Wq l nw Z EL a0 n0 y B ml ret R h0 Post fs h ce sl pc' L (.long (x * z) :: S)) : Wq l nw Z EL a0 n0 y B ml ret R h0 Post fs h ce sl pc L (.long z :: .long x :: S) :=
  pu (fun h hx hb q => by subst hp; exact XS.lmul h hx rfl (Jvm.hb hb hd) rfl q) K
theorem land {x z : Int64} (hd : decode B pc = .ok (.land, 1)) (hp : pc + 1 = pc') (K : Wq l nw Z EL a0 n0 y B ml ret R h0 Post fs h ce sl pc' L (.long (x &&& z) :: S)) : Wq l nw Z EL a0 n0 y B ml ret R h0 Post fs h ce sl pc L (.long z :: .long x :: S) :=
  pu (fun h hx hb q => by subst hp; exact XS.land h hx rfl (Jvm.hb hb hd) rfl q) K
theorem lor {x z : Int64} (hd : decode B pc = .ok (.lor, 1)) (hp : pc + 1 = pc') (K : Wq l nw Z EL a0 n0 y B ml ret R h0 Post fs h ce sl pc' L (.long (x ||| z) :: S)) : Wq l nw Z EL a0 n0 y B ml ret R h0 Post fs h ce sl pc L (.long z :: .long x :: S) :=
  pu (fun h hx hb q => by subst hp; exact XS.lor h hx rfl (Jvm.hb hb hd) rfl q) K
theorem lxor {x z : Int64} (hd : decode B pc = .ok (.lxor, 1)) (hp : pc + 1 = pc') (K : Wq l nw Z EL a0 n0 y B ml ret R h0 Post fs h ce sl pc' L (.long (x ^^^ z) :: S)) : Wq l nw Z EL a0 n0 y B ml ret R h0 Post fs h ce sl pc L (.long z :: .long x :: S) :=
  pu (fun h hx hb q => by subst hp; exact XS.lxor h hx rfl (Jvm.hb hb hd) rfl q) K
theorem lshl {x : Int64} {z : Int32} (hd : decode B pc = .ok (.lshl, 1)) (hp : pc + 1 = pc') (K : Wq l nw Z EL a0 n0 y B ml ret R h0 Post fs h ce sl pc' L (.long (x <<< (z &&& 0x3f).toInt64) :: S)) : Wq l nw Z EL a0 n0 y B ml ret R h0 Post fs h ce sl pc L (.int z :: .long x :: S) :=
  pu (fun h hx hb q => by subst hp; exact XS.lshl h hx rfl (Jvm.hb hb hd) rfl q) K
theorem lshr {x : Int64} {z : Int32} (hd : decode B pc = .ok (.lshr, 1)) (hp : pc + 1 = pc') (K : Wq l nw Z EL a0 n0 y B ml ret R h0 Post fs h ce sl pc' L (.long (x >>> (z &&& 0x3f).toInt64) :: S)) : Wq l nw Z EL a0 n0 y B ml ret R h0 Post fs h ce sl pc L (.int z :: .long x :: S) :=
  pu (fun h hx hb q => by subst hp; exact XS.lshr h hx rfl (Jvm.hb hb hd) rfl q) K
theorem lushr {x : Int64} {z : Int32} (hd : decode B pc = .ok (.lushr, 1)) (hp : pc + 1 = pc') (K : Wq l nw Z EL a0 n0 y B ml ret R h0 Post fs h ce sl pc' L (.long ((x.toUInt64 >>> (z &&& 0x3f).toInt64.toUInt64).toInt64) :: S)) : Wq l nw Z EL a0 n0 y B ml ret R h0 Post fs h ce sl pc L (.int z :: .long x :: S) :=
  pu (fun h hx hb q => by subst hp; exact XS.lushr h hx rfl (Jvm.hb hb hd) rfl q) K
theorem idiv {x z : Int32} (hd : decode B pc = .ok (.idiv, 1)) (hz : ¬ z = 0) (hp : pc + 1 = pc') (K : Wq l nw Z EL a0 n0 y B ml ret R h0 Post fs h ce sl pc' L (.int (x / z) :: S)) : Wq l nw Z EL a0 n0 y B ml ret R h0 Post fs h ce sl pc L (.int z :: .int x :: S) :=
  pu (fun h hx hb q => by subst hp; exact XS.idiv h hx rfl (Jvm.hb hb hd) rfl hz q) K
theorem ldiv {x z : Int64} (hd : decode B pc = .ok (.ldiv, 1)) (hz : ¬ z = 0) (hp : pc + 1 = pc') (K : Wq l nw Z EL a0 n0 y B ml ret R h0 Post fs h ce sl pc' L (.long (x / z) :: S)) : Wq l nw Z EL a0 n0 y B ml ret R h0 Post fs h ce sl pc L (.long z :: .long x :: S) :=
  pu (fun h hx hb q => by subst hp; exact XS.ldiv h hx rfl (Jvm.hb hb hd) rfl hz q) K
theorem irem {x z : Int32} (hd : decode B pc = .ok (.irem, 1)) (hz : ¬ z = 0) (hp : pc + 1 = pc') (K : Wq l nw Z EL a0 n0 y B ml ret R h0 Post fs h ce sl pc' L (.int (x % z) :: S)) : Wq l nw Z EL a0 n0 y B ml ret R h0 Post fs h ce sl pc L (.int z :: .int x :: S) := fun p e s m args below meth c T locs vm k C =>
  (K p e s m args below meth c T locs vm k C).st fun u q => by subst hp; exact iremM C.2.2.1 C.1.1 rfl (Jvm.hb C.1.2.1 hd) rfl hz q
theorem i2l {x : Int32} (hd : decode B pc = .ok (.i2l, 1)) (hp : pc + 1 = pc') (K : Wq l nw Z EL a0 n0 y B ml ret R h0 Post fs h ce sl pc' L (.long (x.toInt64) :: S)) : Wq l nw Z EL a0 n0 y B ml ret R h0 Post fs h ce sl pc L (.int x :: S) :=
  pu (fun h hx hb q => by subst hp; exact XS.i2l h hx rfl (Jvm.hb hb hd) rfl q) K
theorem l2i {x : Int64} (hd : decode B pc = .ok (.l2i, 1)) (hp : pc + 1 = pc') (K : Wq l nw Z EL a0 n0 y B ml ret R h0 Post fs h ce sl pc' L (.int (x.toInt32) :: S)) : Wq l nw Z EL a0 n0 y B ml ret R h0 Post fs h ce sl pc L (.long x :: S) :=
  pu (fun h hx hb q => by subst hp; exact XS.l2i h hx rfl (Jvm.hb hb hd) rfl q) K
theorem i2b {x : Int32} (hd : decode B pc = .ok (.i2b, 1)) (hp : pc + 1 = pc') (K : Wq l nw Z EL a0 n0 y B ml ret R h0 Post fs h ce sl pc' L (.int (x.toInt8.toInt32) :: S)) : Wq l nw Z EL a0 n0 y B ml ret R h0 Post fs h ce sl pc L (.int x :: S) :=
  pu (fun h hx hb q => by subst hp; exact XS.i2b h hx rfl (Jvm.hb hb hd) rfl q) K
theorem i2c {x : Int32} (hd : decode B pc = .ok (.i2c, 1)) (hp : pc + 1 = pc') (K : Wq l nw Z EL a0 n0 y B ml ret R h0 Post fs h ce sl pc' L (.int (x.toUInt32.toUInt16.toUInt32.toInt32) :: S)) : Wq l nw Z EL a0 n0 y B ml ret R h0 Post fs h ce sl pc L (.int x :: S) :=
  pu (fun h hx hb q => by subst hp; exact XS.i2c h hx rfl (Jvm.hb hb hd) rfl q) K
theorem i2s {x : Int32} (hd : decode B pc = .ok (.i2s, 1)) (hp : pc + 1 = pc') (K : Wq l nw Z EL a0 n0 y B ml ret R h0 Post fs h ce sl pc' L (.int (x.toInt16.toInt32) :: S)) : Wq l nw Z EL a0 n0 y B ml ret R h0 Post fs h ce sl pc L (.int x :: S) :=
  pu (fun h hx hb q => by subst hp; exact XS.i2s h hx rfl (Jvm.hb hb hd) rfl q) K
theorem ineg {x : Int32} (hd : decode B pc = .ok (.ineg, 1)) (hp : pc + 1 = pc') (K : Wq l nw Z EL a0 n0 y B ml ret R h0 Post fs h ce sl pc' L (.int (-x) :: S)) : Wq l nw Z EL a0 n0 y B ml ret R h0 Post fs h ce sl pc L (.int x :: S) :=
  pu (fun h hx hb q => by subst hp; exact XS.ineg h hx rfl (Jvm.hb hb hd) rfl q) K
theorem lneg {x : Int64} (hd : decode B pc = .ok (.lneg, 1)) (hp : pc + 1 = pc') (K : Wq l nw Z EL a0 n0 y B ml ret R h0 Post fs h ce sl pc' L (.long (-x) :: S)) : Wq l nw Z EL a0 n0 y B ml ret R h0 Post fs h ce sl pc L (.long x :: S) :=
  pu (fun h hx hb q => by subst hp; exact XS.lneg h hx rfl (Jvm.hb hb hd) rfl q) K
theorem lcmp {x z : Int64} (hd : decode B pc = .ok (.lcmp, 1)) (hp : pc + 1 = pc') (K : Wq l nw Z EL a0 n0 y B ml ret R h0 Post fs h ce sl pc' L (.int (lcmpW x z) :: S)) : Wq l nw Z EL a0 n0 y B ml ret R h0 Post fs h ce sl pc L (.long z :: .long x :: S) :=
  pu (fun h hx hb q => by subst hp; exact XS.lcmp h hx rfl (Jvm.hb hb hd) rfl q) K
theorem iinc {j : Nat} {i : Int} {x v : Int32} {L' : Array Slot} (hd : decode B pc = .ok (.iinc j i, 3)) (hl : L[j]? = some (.val (.int x))) (hv : x + Int32.ofInt i = v) (hl' : storeLocals L j (.int v) = some L') (hp : pc + 3 = pc') (K : Wq l nw Z EL a0 n0 y B ml ret R h0 Post fs h ce sl pc' L' S) : Wq l nw Z EL a0 n0 y B ml ret R h0 Post fs h ce sl pc L S :=
  pu (fun h hx hb q => by subst hp hv; exact XS.iinc h hx rfl (Jvm.hb hb hd) hl hl' q) K
theorem dup {v : Value} (hd : decode B pc = .ok (.dup, 1)) (hc : v.category = 1) (hp : pc + 1 = pc') (K : Wq l nw Z EL a0 n0 y B ml ret R h0 Post fs h ce sl pc' L (v :: v :: S)) : Wq l nw Z EL a0 n0 y B ml ret R h0 Post fs h ce sl pc L (v :: S) :=
  pu (fun h hx hb q => by subst hp; exact XS.dup h hx rfl (Jvm.hb hb hd) rfl hc q) K
theorem pop {v : Value} (hd : decode B pc = .ok (.pop, 1)) (hc : v.category = 1) (hp : pc + 1 = pc') (K : Wq l nw Z EL a0 n0 y B ml ret R h0 Post fs h ce sl pc' L S) : Wq l nw Z EL a0 n0 y B ml ret R h0 Post fs h ce sl pc L (v :: S) :=
  pu (fun h hx hb q => by subst hp; exact XS.pop h hx rfl (Jvm.hb hb hd) rfl hc q) K
theorem dup_x1 {v w : Value} (hd : decode B pc = .ok (.dup_x1, 1)) (hc : v.category = 1) (hc2 : w.category = 1) (hp : pc + 1 = pc') (K : Wq l nw Z EL a0 n0 y B ml ret R h0 Post fs h ce sl pc' L (v :: w :: v :: S)) : Wq l nw Z EL a0 n0 y B ml ret R h0 Post fs h ce sl pc L (v :: w :: S) :=
  pu (fun h hx hb q => by subst hp; exact XS.dupX1 h hx rfl (Jvm.hb hb hd) rfl hc hc2 q) K
theorem i2d {x : Int32} (hd : decode B pc = .ok (.i2d, 1)) (hp : pc + 1 = pc') (K : Wq l nw Z EL a0 n0 y B ml ret R h0 Post fs h ce sl pc' L (.double (FP.i2d x) :: S)) : Wq l nw Z EL a0 n0 y B ml ret R h0 Post fs h ce sl pc L (.int x :: S) :=
  pu (fun h hx hb q => by subst hp; exact XS.i2dS h hx rfl (Jvm.hb hb hd) rfl rfl q) K
theorem l2d {x : Int64} (hd : decode B pc = .ok (.l2d, 1)) (hp : pc + 1 = pc') (K : Wq l nw Z EL a0 n0 y B ml ret R h0 Post fs h ce sl pc' L (.double (FP.l2d x) :: S)) : Wq l nw Z EL a0 n0 y B ml ret R h0 Post fs h ce sl pc L (.long x :: S) :=
  pu (fun h hx hb q => by subst hp; exact XS.l2dS h hx rfl (Jvm.hb hb hd) rfl rfl q) K
theorem dcmp {o : CmpOp} {x z : UInt64} (hd : decode B pc = .ok (.dcmp o, 1)) (hp : pc + 1 = pc') (K : Wq l nw Z EL a0 n0 y B ml ret R h0 Post fs h ce sl pc' L (.int (cmpValue (FP.dcmp x z) o) :: S)) : Wq l nw Z EL a0 n0 y B ml ret R h0 Post fs h ce sl pc L (.double z :: .double x :: S) :=
  pu (fun h hx hb q => by subst hp; exact XS.dcmpS h hx rfl (Jvm.hb hb hd) rfl rfl q) K
theorem dconst0 {v : UInt64} (hd : decode B pc = .ok (.dconst 0, 1)) (hv : FP.dconst0 = v) (hp : pc + 1 = pc') (K : Wq l nw Z EL a0 n0 y B ml ret R h0 Post fs h ce sl pc' L (.double v :: S)) : Wq l nw Z EL a0 n0 y B ml ret R h0 Post fs h ce sl pc L S :=
  pu (fun h hx hb q => by subst hp; exact XS.dconst0 h hx rfl (Jvm.hb hb hd) hv q) K
theorem dconst1 {v : UInt64} (hd : decode B pc = .ok (.dconst 1, 1)) (hv : FP.dconst1 = v) (hp : pc + 1 = pc') (K : Wq l nw Z EL a0 n0 y B ml ret R h0 Post fs h ce sl pc' L (.double v :: S)) : Wq l nw Z EL a0 n0 y B ml ret R h0 Post fs h ce sl pc L S :=
  pu (fun h hx hb q => by subst hp; exact XS.dconst1 h hx rfl (Jvm.hb hb hd) hv q) K
theorem dadd {x z v : UInt64} (hd : decode B pc = .ok (.dadd, 1)) (hn : Jvm.Free.Fl.NoNaN64 (FP.dadd x z)) (hv : FP.dadd x z = v) (hp : pc + 1 = pc') (K : Wq l nw Z EL a0 n0 y B ml ret R h0 Post fs h ce sl pc' L (.double v :: S)) : Wq l nw Z EL a0 n0 y B ml ret R h0 Post fs h ce sl pc L (.double z :: .double x :: S) :=
  pu (fun h hx hb q => by subst hp; exact XS.daddS h hx rfl (Jvm.hb hb hd) rfl hn hv q) K
theorem dsub {x z v : UInt64} (hd : decode B pc = .ok (.dsub, 1)) (hn : Jvm.Free.Fl.NoNaN64 (FP.dsub x z)) (hv : FP.dsub x z = v) (hp : pc + 1 = pc') (K : Wq l nw Z EL a0 n0 y B ml ret R h0 Post fs h ce sl pc' L (.double v :: S)) : Wq l nw Z EL a0 n0 y B ml ret R h0 Post fs h ce sl pc L (.double z :: .double x :: S) :=
  pu (fun h hx hb q => by subst hp; exact XS.dsubS h hx rfl (Jvm.hb hb hd) rfl hn hv q) K
theorem dmul {x z v : UInt64} (hd : decode B pc = .ok (.dmul, 1)) (hn : Jvm.Free.Fl.NoNaN64 (FP.dmul x z)) (hv : FP.dmul x z = v) (hp : pc + 1 = pc') (K : Wq l nw Z EL a0 n0 y B ml ret R h0 Post fs h ce sl pc' L (.double v :: S)) : Wq l nw Z EL a0 n0 y B ml ret R h0 Post fs h ce sl pc L (.double z :: .double x :: S) :=
  pu (fun h hx hb q => by subst hp; exact XS.dmulS h hx rfl (Jvm.hb hb hd) rfl hn hv q) K
theorem ddiv {x z v : UInt64} (hd : decode B pc = .ok (.ddiv, 1)) (hn : Jvm.Free.Fl.NoNaN64 (FP.ddiv x z)) (hv : FP.ddiv x z = v) (hp : pc + 1 = pc') (K : Wq l nw Z EL a0 n0 y B ml ret R h0 Post fs h ce sl pc' L (.double v :: S)) : Wq l nw Z EL a0 n0 y B ml ret R h0 Post fs h ce sl pc L (.double z :: .double x :: S) :=
  pu (fun h hx hb q => by subst hp; exact XS.ddivS h hx rfl (Jvm.hb hb hd) rfl hn hv q) K
theorem goto {o : Int} (hd : decode B pc = .ok (.goto o, 3)) (ho : 0 ≤ (pc : Int) + o) (hp : ((pc : Int) + o).toNat = pc') (K : Wq l nw Z EL a0 n0 y B ml ret R h0 Post fs h ce sl pc' L S) : Wq l nw Z EL a0 n0 y B ml ret R h0 Post fs h ce sl pc L S :=
  pu (fun h hx hb q => XS.goto h hx rfl (pc0 := pc) rfl (Jvm.hb hb hd) ho hp q) K
def rel (cd : ClassFile.Cond) (x z : Int32) : Prop := match cd with
  | .eq => x = z
  | .ne => ¬ x = z
  | .lt => x < z
  | .ge => ¬ x < z
  | .gt => z < x
  | .le => ¬ z < x
def relN (cd : ClassFile.Cond) (x z : Int32) : Prop := match cd with
  | .eq => ¬ x = z
  | .ne => x = z
  | .lt => ¬ x < z
  | .ge => x < z
  | .gt => ¬ z < x
  | .le => z < x
theorem rel_t {cd : ClassFile.Cond} {x z : Int32} (h : rel cd x z) : if_icmp.holds cd x z = true := by
  cases cd
  · exact (teq h).1
  · exact (feq h).2
  · exact (tlt h).1
  · exact (flt h).2.1
  · exact (tlt h).2.2.1
  · exact (flt h).2.2.2
theorem rel_f {cd : ClassFile.Cond} {x z : Int32} (h : relN cd x z) : if_icmp.holds cd x z = false := by
  cases cd
  · exact (feq h).1
  · exact (teq h).2
  · exact (flt h).1
  · exact (tlt h).2.1
  · exact (flt h).2.2.1
  · exact (tlt h).2.2.2
theorem rel_or (cd : ClassFile.Cond) (x z : Int32) : rel cd x z ∨ relN cd x z := by
  cases cd <;> simp only [rel, relN] <;> first | exact Decidable.em _ | exact (Decidable.em _).symm
theorem icmpT {cd : ClassFile.Cond} {o : Int} {x z : Int32} (hd : decode B pc = .ok (.if_icmp cd o, 3)) (hc : rel cd x z) (ho : 0 ≤ (pc : Int) + o) (hp : ((pc : Int) + o).toNat = pc') (K : Wq l nw Z EL a0 n0 y B ml ret R h0 Post fs h ce sl pc' L S) : Wq l nw Z EL a0 n0 y B ml ret R h0 Post fs h ce sl pc L (.int z :: .int x :: S) :=
  pu (fun h hx hb q => XS.icmpYes h hx rfl (pc0 := pc) rfl (Jvm.hb hb hd) rfl (rel_t hc) ho hp q) K
theorem icmpF {cd : ClassFile.Cond} {o : Int} {x z : Int32} (hd : decode B pc = .ok (.if_icmp cd o, 3)) (hc : relN cd x z) (hp : pc + 3 = pc') (K : Wq l nw Z EL a0 n0 y B ml ret R h0 Post fs h ce sl pc' L S) : Wq l nw Z EL a0 n0 y B ml ret R h0 Post fs h ce sl pc L (.int z :: .int x :: S) :=
  pu (fun h hx hb q => by subst hp; exact XS.icmpNo h hx rfl (Jvm.hb hb hd) rfl (rel_f hc) q) K
theorem icmp {cd : ClassFile.Cond} {o : Int} {x z : Int32} {pcF : Nat} (hd : decode B pc = .ok (.if_icmp cd o, 3)) (ho : 0 ≤ (pc : Int) + o) (hp : ((pc : Int) + o).toNat = pc') (hp2 : pc + 3 = pcF) (K : rel cd x z → Wq l nw Z EL a0 n0 y B ml ret R h0 Post fs h ce sl pc' L S) (K2 : relN cd x z → Wq l nw Z EL a0 n0 y B ml ret R h0 Post fs h ce sl pcF L S) : Wq l nw Z EL a0 n0 y B ml ret R h0 Post fs h ce sl pc L (.int z :: .int x :: S) :=
  (rel_or cd x z).elim (fun q => icmpT hd q ho hp (K q)) (fun q => icmpF hd q hp2 (K2 q))
theorem ifT {cd : ClassFile.Cond} {o : Int} {x : Int32} (hd : decode B pc = .ok (.ifCond cd o, 3)) (hc : rel cd x 0) (ho : 0 ≤ (pc : Int) + o) (hp : ((pc : Int) + o).toNat = pc') (K : Wq l nw Z EL a0 n0 y B ml ret R h0 Post fs h ce sl pc' L S) : Wq l nw Z EL a0 n0 y B ml ret R h0 Post fs h ce sl pc L (.int x :: S) :=
  pu (fun h hx hb q => XS.ifYes h hx rfl (pc0 := pc) rfl (Jvm.hb hb hd) rfl ((if0 _ _).trans (rel_t hc)) ho hp q) K
theorem ifF {cd : ClassFile.Cond} {o : Int} {x : Int32} (hd : decode B pc = .ok (.ifCond cd o, 3)) (hc : relN cd x 0) (hp : pc + 3 = pc') (K : Wq l nw Z EL a0 n0 y B ml ret R h0 Post fs h ce sl pc' L S) : Wq l nw Z EL a0 n0 y B ml ret R h0 Post fs h ce sl pc L (.int x :: S) :=
  pu (fun h hx hb q => by subst hp; exact XS.ifNo h hx rfl (Jvm.hb hb hd) rfl ((if0 _ _).trans (rel_f hc)) q) K
theorem ifc {cd : ClassFile.Cond} {o : Int} {x : Int32} {pcF : Nat} (hd : decode B pc = .ok (.ifCond cd o, 3)) (ho : 0 ≤ (pc : Int) + o) (hp : ((pc : Int) + o).toNat = pc') (hp2 : pc + 3 = pcF) (K : rel cd x 0 → Wq l nw Z EL a0 n0 y B ml ret R h0 Post fs h ce sl pc' L S) (K2 : relN cd x 0 → Wq l nw Z EL a0 n0 y B ml ret R h0 Post fs h ce sl pcF L S) : Wq l nw Z EL a0 n0 y B ml ret R h0 Post fs h ce sl pc L (.int x :: S) :=
  (rel_or cd x 0).elim (fun q => ifT hd q ho hp (K q)) (fun q => ifF hd q hp2 (K2 q))
theorem ifnullT {o : Int} (hd : decode B pc = .ok (.ifnull o, 3)) (ho : 0 ≤ (pc : Int) + o) (hp : ((pc : Int) + o).toNat = pc') (K : Wq l nw Z EL a0 n0 y B ml ret R h0 Post fs h ce sl pc' L S) : Wq l nw Z EL a0 n0 y B ml ret R h0 Post fs h ce sl pc L (.null :: S) :=
  pu (fun h hx hb q => XS.ifnullYes h hx rfl (pc0 := pc) rfl (Jvm.hb hb hd) rfl ho hp q) K
theorem ifnullF {o : Int} {a : Addr} (hd : decode B pc = .ok (.ifnull o, 3)) (hp : pc + 3 = pc') (K : Wq l nw Z EL a0 n0 y B ml ret R h0 Post fs h ce sl pc' L S) : Wq l nw Z EL a0 n0 y B ml ret R h0 Post fs h ce sl pc L (.ref a :: S) :=
  pu (fun h hx hb q => by subst hp; exact XS.ifnullNo h hx rfl (Jvm.hb hb hd) rfl q) K
theorem ifnonnullT {o : Int} {a : Addr} (hd : decode B pc = .ok (.ifnonnull o, 3)) (ho : 0 ≤ (pc : Int) + o) (hp : ((pc : Int) + o).toNat = pc') (K : Wq l nw Z EL a0 n0 y B ml ret R h0 Post fs h ce sl pc' L S) : Wq l nw Z EL a0 n0 y B ml ret R h0 Post fs h ce sl pc L (.ref a :: S) :=
  pu (fun h hx hb q => XS.ifnonnullYes h hx rfl (pc0 := pc) rfl (Jvm.hb hb hd) rfl ho hp q) K
theorem ifnonnullF {o : Int} (hd : decode B pc = .ok (.ifnonnull o, 3)) (hp : pc + 3 = pc') (K : Wq l nw Z EL a0 n0 y B ml ret R h0 Post fs h ce sl pc' L S) : Wq l nw Z EL a0 n0 y B ml ret R h0 Post fs h ce sl pc L (.null :: S) :=
  pu (fun h hx hb q => by subst hp; exact XS.ifnonnullNo h hx rfl (Jvm.hb hb hd) rfl q) K
/-- two references compared: same or not -/
theorem acmp {cd : ACond} {o : Int} {v w : Value} (same : Bool) (hd : decode B pc = .ok (.if_acmp cd o, 3)) (h1 : v.isRef = true) (h2 : w.isRef = true) (hc : decide (v = w) = same) (ho : 0 ≤ (pc : Int) + o) (hp : pc' = if acV cd same = true then ((pc : Int) + o).toNat else pc + 3) (K : Wq l nw Z EL a0 n0 y B ml ret R h0 Post fs h ce sl pc' L S) : Wq l nw Z EL a0 n0 y B ml ret R h0 Post fs h ce sl pc L (w :: v :: S) := fun p e s m args below meth c T locs vm k C =>
  (K p e s m args below meth c T locs vm k C).st fun u q => Jvm.RoadKit.acmp (g := mkF m pc L (w :: v :: S)) C.2.2.1 C.1.1 rfl h1 h2 (pc0 := pc) (pc' := pc') (same := same) rfl (Jvm.hb C.1.2.1 hd) rfl hc ho hp q
/-- a step that hands back a state with the same heap -/
theorem same {L' : Array Slot} {S' : List Value} (st : ∀ {p : Program} {e : Env} {s : State} {m : MethodId} {args : Array Value} {below : List Frame} {meth : Method} {c : Code} {T : State} {locs : List Loc}, p.tables.exec = Jvm.exec → c.code = B → s.vm.findClass y.cls = some m.cls → Z.Warmed39 s.vm → (∀ d ∈ tables_1, d.before a0 Z = true) → T.heap = h → c.maxLocals = ml →
      Stand p l e R s m args below meth c T locs ce sl → ∃ T', Stand p l e R s m args below meth c T' locs ce sl ∧ T'.heap = h ∧ ∀ u, Steps p.tables e below (T'.setTop (mkF m pc' L' S')) u → Steps p.tables e below (T.setTop (mkF m pc L S)) u)
    (K : Wq l nw Z EL a0 n0 y B ml ret R h0 Post fs h ce sl pc' L' S') : Wq l nw Z EL a0 n0 y B ml ret R h0 Post fs h ce sl pc L S := fun p e s m args below meth c T locs vm k C => by
  obtain ⟨⟨hx, hby, hml, hret, hlk, hnm, hown, hh0⟩, ⟨hZ, hw, hEL, hnw⟩, X, hT, ⟨hN, hO⟩, ⟨hS, hk⟩, hC, hF⟩ := C
  obtain ⟨T', X', e', q⟩ := st (s := s.setVm vm) hx hby hown hZ hw hT hml X
  exact (K p e s m args below meth c T' locs vm k ⟨⟨hx, hby, hml, hret, hlk, hnm, hown, hh0⟩, ⟨hZ, hw, hEL, hnw⟩, X', e', ⟨hN, hO⟩, ⟨hS, hk⟩, hC, hF⟩).st q
/-- a step that makes new cells -/
theorem grow {L' : Array Slot} {S' : List Value} {ce' sl' : Nat} {P : Heap → Prop} (st : ∀ {p : Program} {e : Env} {s : State} {m : MethodId} {args : Array Value} {below : List Frame} {meth : Method} {c : Code} {T : State} {locs : List Loc}, p.tables.exec = Jvm.exec → c.code = B → s.vm.findClass y.cls = some m.cls → Z.Warmed39 s.vm → (∀ d ∈ tables_1, d.before a0 Z = true) → T.heap = h → c.maxLocals = ml →
      Stand p l e R s m args below meth c T locs ce sl → ∃ T' h', Stand p l e R s m args below meth c T' locs ce' sl' ∧ T'.heap = h' ∧ Ext h h' ∧ P h' ∧ ∀ u, Steps p.tables e below (T'.setTop (mkF m pc' L' S')) u → Steps p.tables e below (T.setTop (mkF m pc L S)) u)
    {fs' : List Addr} (hfs : ∀ x ∈ fs', x ∈ fs ∨ x = h.size) (hlt : ∀ h', Ext h h' → P h' → h.size < h'.size) (K : ∀ h', Ext h h' → P h' → Wq l nw Z EL a0 n0 y B ml ret R h0 Post fs' h' ce' sl' pc' L' S') : Wq l nw Z EL a0 n0 y B ml ret R h0 Post fs h ce sl pc L S := fun p e s m args below meth c T locs vm k C => by
  obtain ⟨⟨hx, hby, hml, hret, hlk, hnm, hown, hh0⟩, ⟨hZ, hw, hEL, hnw⟩, X, hT, ⟨hN, hO⟩, ⟨hS, hk⟩, hC, hF⟩ := C
  obtain ⟨T', h', X', e', E, hP, q⟩ := st (s := s.setVm vm) hx hby hown hZ hw hT hml X
  have hC' := hC.trans (CHr.ext E hC.1)
  refine (K h' E hP p e s m args below meth c T' locs vm k ⟨⟨hx, hby, hml, hret, hlk, hnm, hown, hh0⟩, ⟨hZ, hw, hEL, hnw⟩, X', e', ⟨hN, hO.ext E⟩, ⟨hS, Nat.le_trans hk E.1⟩, hC', fun x q => ?_⟩).st q
  rcases hfs x q with r | rfl
  · exact ⟨(hF x r).1, Nat.lt_of_lt_of_le (hF x r).2.1 E.1, Safe.ext E hC.1 (hF x r).2.2⟩
  · exact ⟨by have := hO.2.1; rw [hO.1] at this; exact this, hlt h' E hP, Safe.ext E hC.1 (Safe.new (Nat.le_refl _))⟩
/-- a step that writes one slot -/
theorem wrote {S' : List Value} {a : Addr} {j : Nat} {v : Value} (st : ∀ {p : Program} {e : Env} {s : State} {m : MethodId} {args : Array Value} {below : List Frame} {meth : Method} {c : Code} {T : State} {locs : List Loc}, p.tables.exec = Jvm.exec → c.code = B → s.vm.findClass y.cls = some m.cls → meth.name = y.name → Z.Warmed39 s.vm → (∀ d ∈ tables_1, d.before a0 Z = true) → T.heap = h →
      Stand p l e R s m args below meth c T locs ce sl → ∃ T' h', Stand p l e R s m args below meth c T' (locs ++ [⟨a, j⟩]) ce sl ∧ T'.heap = h' ∧ Wr h h' a j v ∧ ∀ u, Steps p.tables e below (T'.setTop (mkF m pc' L S')) u → Steps p.tables e below (T.setTop (mkF m pc L S)) u)
    (hf : a ∈ fs) (K : ∀ h', Wr h h' a j v → Wq l nw Z EL a0 n0 y B ml ret R h0 Post fs h' ce sl pc' L S') : Wq l nw Z EL a0 n0 y B ml ret R h0 Post fs h ce sl pc L S := fun p e s m args below meth c T locs vm k C => by
  obtain ⟨⟨hx, hby, hml, hret, hlk, hnm, hown, hh0⟩, ⟨hZ, hw, hEL, hnw⟩, X, hT, ⟨hN, hO⟩, ⟨hS, hk⟩, hC, hF⟩ := C
  obtain ⟨T', h', X', e', W', q⟩ := st (s := s.setVm vm) hx hby hown hnm hZ hw hT X
  have hsf := (hF a hf).2.2
  have hsz : h'.size = h.size := W'.size
  exact (K h' W' p e s m args below meth c T' _ vm k ⟨⟨hx, hby, hml, hret, hlk, hnm, hown, hh0⟩, ⟨hZ, hw, hEL, hnw⟩, X', e', ⟨Fr.snoc X' hN (hF a hf).1, hO.wr W' (hF a hf).1⟩, ⟨hS, (by rw [hsz]; exact hk)⟩, hC.trans (CHr.wr W' hsf hC.1), fun x r => ⟨(hF x r).1, by rw [hsz]; exact (hF x r).2.1, Safe.wr W' hsf hC.1 (hF x r).2.2⟩⟩).st q
theorem wat {d : Jvm.Cond} (hw : ∀ d ∈ tables_1, d.before a0 Z = true) {i : Nat} (h : tables_1[i]? = some d) : d.before a0 Z = true := hw _ (List.mem_of_getElem? h)
theorem getfield {i ix : Nat} {C n d : String} {a : Addr} {v : Value} (hd : decode B pc = .ok (.getfield ix, 3)) (w : tables_1[i]? = some (.fieldLink y.cls ix C n d)) (F : Fld Z h a C n d v) (hp : pc + 3 = pc') (K : Wq l nw Z EL a0 n0 y B ml ret R h0 Post fs h ce sl pc' L (v :: S)) : Wq l nw Z EL a0 n0 y B ml ret R h0 Post fs h ce sl pc L (.ref a :: S) :=
  same (fun hx hby hown hZ hw hT _ X => by subst hp; exact getF X hx hZ hown (host := "") (Or.inl (wat hw w)) Via.refl hT F (g := mkF _ pc L (.ref a :: S)) rfl rfl (Jvm.hb hby hd)) K
theorem getstatic {i ix : Nat} {C n d : String} {v : Value} (hd : decode B pc = .ok (.getstatic ix, 3)) (w : tables_1[i]? = some (.fieldLink y.cls ix C n d)) (F : Sta Z h C n d v) (hp : pc + 3 = pc') (K : Wq l nw Z EL a0 n0 y B ml ret R h0 Post fs h ce sl pc' L (v :: S)) : Wq l nw Z EL a0 n0 y B ml ret R h0 Post fs h ce sl pc L S :=
  same (fun hx hby hown hZ hw hT _ X => by subst hp; exact getS2 X hx hZ hown (host := "") (Or.inl (wat hw w)) Via.refl hT F (g := mkF _ pc L S) rfl (Jvm.hb hby hd)) K
theorem putfield {i i2 i3 ix kk : Nat} {C O n d : String} {ty : FieldType} {a : Addr} {v v' old : Value} (hd : decode B pc = .ok (.putfield ix, 3)) (w : tables_1[i]? = some (.fieldLink y.cls ix O n d))
    (w2 : tables_1[i2]? = some (.lays C O n d) ∨ (tables_1[i2]? = some (.laysFinal C O n d) ∧ y.cls = O ∧ y.name = "<init>")) (w3 : tables_1[i3]? = some (.instantiable C kk))
    (F : Fld Z h a O n d old) (E : Exa Z h a C) (hty : parseFieldDescriptor d = some ty) (hn : narrow ty v = v') (hfit : fits ty v' = true) (hf : a ∈ fs) (hp : pc + 3 = pc')
    (K : ∀ h', Wr h h' a (Jvm.RoadKit.slotOf Z O n d) v' → Wq l nw Z EL a0 n0 y B ml ret R h0 Post fs h' ce sl pc' L S) : Wq l nw Z EL a0 n0 y B ml ret R h0 Post fs h ce sl pc L (v :: .ref a :: S) :=
  wrote (fun hx hby hown hnm hZ hw hT X => by subst hp; exact putFN X hx hZ hown (wat hw w) Via.refl hT F E (w2.imp (fun q => wat hw q) fun q => ⟨wat hw q.1, q.2.1, hnm.trans q.2.2⟩) (wat hw w3) hty hn hfit (g := mkF _ pc L (v :: .ref a :: S)) rfl rfl (Jvm.hb hby hd))
    hf K
theorem new {i i2 i3 ix n : Nat} {C : String} (hd : decode B pc = .ok (.new ix, 3)) (w : tables_1[i]? = some (.classLink y.cls ix C)) (w2 : tables_1[i2]? = some (.instantiable C n)) (w3 : tables_1[i3]? = some (.initialized C)) (hc : ce + 1 ≤ R.cells) (hs : sl + n ≤ R.slots) (hp : pc + 3 = pc')
    (K : ∀ h' a, a = h.size → Ext h h' → Exa Z h' a C → (∀ {O nm d : String} {ty : FieldType}, Laid Z a0 C O nm d → parseFieldDescriptor d = some ty → Fld Z h' a O nm d (defaultValue ty)) → Wq l nw Z EL a0 n0 y B ml ret R h0 Post (a :: fs) h' (ce + 1) (sl + n) pc' L (.ref a :: S)) : Wq l nw Z EL a0 n0 y B ml ret R h0 Post fs h ce sl pc L S :=
  grow (P := fun h' => Exa Z h' h.size C ∧ (∀ {O nm d : String} {ty : FieldType}, Laid Z a0 C O nm d → parseFieldDescriptor d = some ty → Fld Z h' h.size O nm d (defaultValue ty))) (fun hx hby hown hZ hw hT _ X => by
    subst hp
    obtain ⟨T', h', X', e', E, A, D, -, st⟩ := newO X hx hZ hown (wat hw w) (wat hw w2) (wat hw w3) hT (g := mkF _ pc L S) rfl (Jvm.hb hby hd) hc hs
    exact ⟨T', h', X', e', E, ⟨A, D⟩, st⟩) (fs' := h.size :: fs) (fun x q => (List.mem_cons.mp q).symm) (fun h' _ q => q.1.lt) (fun h' E q => K h' _ rfl E q.1 q.2)
theorem newarray {i cap : Nat} {aty : ArrayType} {ty : FieldType} {z : Int32} (hd : decode B pc = .ok (.newarray aty, 2)) (hty : newarray.typeOf aty = ty) (w : tables_1[i]? = some (.arrayClass ty)) (hz : ¬ z < 0) (hcap : z.toNatClampNeg ≤ cap) (hb8 : cap * 8 ≤ 536870912) (hc : ce + 1 ≤ R.cells) (hs : sl + cap ≤ R.slots) (hp : pc + 2 = pc')
    (K : ∀ h' a kc, a = h.size → Ext h h' → Arv Z h' a kc ty z [] (defaultValue ty) → Wq l nw Z EL a0 n0 y B ml ret R h0 Post (a :: fs) h' (ce + 1) (sl + cap) pc' L (.ref a :: S)) : Wq l nw Z EL a0 n0 y B ml ret R h0 Post fs h ce sl pc L (.int z :: S) :=
  grow (P := fun h' => ∃ kc, Arv Z h' h.size kc ty z [] (defaultValue ty)) (fun hx hby hown hZ hw hT _ X => by
    subst hp hty
    obtain ⟨T', h', kc, X', e', E, A, st⟩ := newP X hx hZ (wat hw w) hT (g := mkF _ pc L (.int z :: S)) rfl (Jvm.hb hby hd) rfl hz hcap hb8 hc hs
    exact ⟨T', h', X', e', E, ⟨kc, Arv.new A hz⟩, st⟩) (fs' := h.size :: fs) (fun x q => (List.mem_cons.mp q).symm) (fun h' _ q => q.elim fun kc r => r.lt) (fun h' E q => q.elim fun kc r => K h' _ kc rfl E r)
theorem arraylength {a : Addr} {kc : ClassId} {ty : FieldType} {z : Int32} {vs : List Value} {dv : Value} (hd : decode B pc = .ok (.arraylength, 1)) (F : Arv Z h a kc ty z vs dv) (hp : pc + 1 = pc') (K : Wq l nw Z EL a0 n0 y B ml ret R h0 Post fs h ce sl pc' L (.int z :: S)) : Wq l nw Z EL a0 n0 y B ml ret R h0 Post fs h ce sl pc L (.ref a :: S) :=
  same (fun {p e s m args below meth c T locs} hx hby hown hZ hw hT _ X => by
    subst hp
    obtain ⟨cl, A, -, hsz, hz, -⟩ := F
    refine ⟨T, X, hT, fun u q => X.arraylength hx (by rw [hT]; exact A.1) (State.isArrayOf_alike hZ.alike A.2.1) (g := mkF _ pc L (.ref a :: S)) rfl rfl (Jvm.hb hby hd) u ?_⟩
    rw [len_of hsz hz]; exact q) K
theorem iaload {a : Addr} {kc : ClassId} {z j : Int32} {vs : List Value} {dv v : Value} (hd : decode B pc = .ok (.iaload, 1)) (F : Arv Z h a kc .int z vs dv) (hj : ¬ j < 0 ∧ j < z) (hv : vs.getD j.toNatClampNeg dv = v) (hp : pc + 1 = pc') (K : Wq l nw Z EL a0 n0 y B ml ret R h0 Post fs h ce sl pc' L (v :: S)) : Wq l nw Z EL a0 n0 y B ml ret R h0 Post fs h ce sl pc L (.int j :: .ref a :: S) :=
  same (fun {p e s m args below meth c T locs} hx hby hown hZ hw hT _ X => by
    subst hp
    obtain ⟨cl, A, -, hsz, hz, hH, -⟩ := F
    have hin := inb_of hsz hj
    exact ⟨T, X, hT, fun u q => X.iaload hx (by rw [hT]; exact A.1) (State.isArrayOf_alike hZ.alike A.2.1) A.2.2 hin (hH.at hin hv) (g := mkF _ pc L (.int j :: .ref a :: S)) rfl rfl (Jvm.hb hby hd) u q⟩) K
theorem caload {a : Addr} {kc : ClassId} {z j : Int32} {vs : List Value} {dv v : Value} (hd : decode B pc = .ok (.caload, 1)) (F : Arv Z h a kc .char z vs dv) (hj : ¬ j < 0 ∧ j < z) (hv : vs.getD j.toNatClampNeg dv = v) (hp : pc + 1 = pc') (K : Wq l nw Z EL a0 n0 y B ml ret R h0 Post fs h ce sl pc' L (v :: S)) : Wq l nw Z EL a0 n0 y B ml ret R h0 Post fs h ce sl pc L (.int j :: .ref a :: S) :=
  same (fun {p e s m args below meth c T locs} hx hby hown hZ hw hT _ X => by
    subst hp
    obtain ⟨cl, A, -, hsz, hz, hH, -⟩ := F
    have hin := inb_of hsz hj
    exact ⟨T, X, hT, fun u q => X.caload hx (by rw [hT]; exact A.1) (State.isArrayOf_alike hZ.alike A.2.1) A.2.2 hin (hH.at hin hv) (g := mkF _ pc L (.int j :: .ref a :: S)) rfl rfl (Jvm.hb hby hd) u q⟩) K
theorem baload {a : Addr} {kc : ClassId} {z j : Int32} {vs : List Value} {dv v : Value} (hd : decode B pc = .ok (.baload, 1)) (F : Arv Z h a kc .byte z vs dv) (hj : ¬ j < 0 ∧ j < z) (hv : vs.getD j.toNatClampNeg dv = v) (hp : pc + 1 = pc') (K : Wq l nw Z EL a0 n0 y B ml ret R h0 Post fs h ce sl pc' L (v :: S)) : Wq l nw Z EL a0 n0 y B ml ret R h0 Post fs h ce sl pc L (.int j :: .ref a :: S) :=
  same (fun {p e s m args below meth c T locs} hx hby hown hZ hw hT _ X => by
    subst hp
    obtain ⟨cl, A, -, hsz, hz, hH, -⟩ := F
    have hin := inb_of hsz hj
    exact ⟨T, X, hT, fun u q => X.baloadBytes hx (by rw [hT]; exact A.1) (State.isArrayOf_alike hZ.alike A.2.1) A.2.2 hin (hH.at hin hv) (g := mkF _ pc L (.int j :: .ref a :: S)) rfl rfl (Jvm.hb hby hd) u q⟩) K
theorem laload {a : Addr} {kc : ClassId} {z j : Int32} {vs : List Value} {dv v : Value} (hd : decode B pc = .ok (.laload, 1)) (F : Arv Z h a kc .long z vs dv) (hj : ¬ j < 0 ∧ j < z) (hv : vs.getD j.toNatClampNeg dv = v) (hp : pc + 1 = pc') (K : Wq l nw Z EL a0 n0 y B ml ret R h0 Post fs h ce sl pc' L (v :: S)) : Wq l nw Z EL a0 n0 y B ml ret R h0 Post fs h ce sl pc L (.int j :: .ref a :: S) :=
  same (fun {p e s m args below meth c T locs} hx hby hown hZ hw hT _ X => by
    subst hp
    obtain ⟨cl, A, -, hsz, hz, hH, -⟩ := F
    have hin := inb_of hsz hj
    exact ⟨T, X, hT, fun u q => X.laload hx (by rw [hT]; exact A.1) (State.isArrayOf_alike hZ.alike A.2.1) A.2.2 hin (hH.at hin hv) (g := mkF _ pc L (.int j :: .ref a :: S)) rfl rfl (Jvm.hb hby hd) u q⟩) K
theorem aaload {a : Addr} {kc : ClassId} {ty : FieldType} {z j : Int32} {vs : List Value} {dv v : Value} (hd : decode B pc = .ok (.aaload, 1)) (hty : ty.isReference = true) (F : Arv Z h a kc ty z vs dv) (hj : ¬ j < 0 ∧ j < z) (hv : vs.getD j.toNatClampNeg dv = v) (hp : pc + 1 = pc') (K : Wq l nw Z EL a0 n0 y B ml ret R h0 Post fs h ce sl pc' L (v :: S)) : Wq l nw Z EL a0 n0 y B ml ret R h0 Post fs h ce sl pc L (.int j :: .ref a :: S) :=
  same (fun {p e s m args below meth c T locs} hx hby hown hZ hw hT _ X => by
    subst hp
    obtain ⟨cl, A, -, hsz, hz, hH, -⟩ := F
    have hin := inb_of hsz hj
    exact ⟨T, X, hT, fun u q => X.aaload hx (by rw [hT]; exact A.1) (State.isArrayOf_alike hZ.alike A.2.1) hty A.2.2 hin (hH.at hin hv) (g := mkF _ pc L (.int j :: .ref a :: S)) rfl rfl (Jvm.hb hby hd) u q⟩) K
theorem castore {a : Addr} {kc : ClassId} {z j x : Int32} {vs : List Value} {dv : Value} (hd : decode B pc = .ok (.castore, 1)) (F : Arv Z h a kc .char z vs dv) (hj : ¬ j < 0 ∧ j < z) (hf : a ∈ fs) (hl : j.toNatClampNeg < vs.length) (hp : pc + 1 = pc')
    (K : ∀ h', Wr h h' a j.toNatClampNeg (.int (nar .char x)) → Arv Z h' a kc .char z (vs.set j.toNatClampNeg (.int (nar .char x))) dv → Wq l nw Z EL a0 n0 y B ml ret R h0 Post fs h' ce sl pc' L S) : Wq l nw Z EL a0 n0 y B ml ret R h0 Post fs h ce sl pc L (.int x :: .int j :: .ref a :: S) := by
  obtain ⟨cl, A, q1, hsz, hz, hH, hG⟩ := F
  have hin := inb_of hsz hj
  exact wrote (fun hx hby hown hnm hZ hw hT X => by subst hp; exact stC X hx hZ hT A hin (g := mkF _ pc L (.int x :: .int j :: .ref a :: S)) rfl rfl (Jvm.hb hby hd))
    hf (fun h' W' => K h' W' (Arv.set A q1 hsz hz hH hG (fits_nar_char _) W' _ rfl hl))
theorem bastore {a : Addr} {kc : ClassId} {z j x : Int32} {vs : List Value} {dv : Value} (hd : decode B pc = .ok (.bastore, 1)) (F : Arv Z h a kc .byte z vs dv) (hj : ¬ j < 0 ∧ j < z) (hf : a ∈ fs) (hl : j.toNatClampNeg < vs.length) (hp : pc + 1 = pc')
    (K : ∀ h', Wr h h' a j.toNatClampNeg (.int (nar .byte x)) → Arv Z h' a kc .byte z (vs.set j.toNatClampNeg (.int (nar .byte x))) dv → Wq l nw Z EL a0 n0 y B ml ret R h0 Post fs h' ce sl pc' L S) : Wq l nw Z EL a0 n0 y B ml ret R h0 Post fs h ce sl pc L (.int x :: .int j :: .ref a :: S) := by
  obtain ⟨cl, A, q1, hsz, hz, hH, hG⟩ := F
  have hin := inb_of hsz hj
  exact wrote (fun hx hby hown hnm hZ hw hT X => by subst hp; exact stB X hx hZ hT A hin (g := mkF _ pc L (.int x :: .int j :: .ref a :: S)) rfl rfl (Jvm.hb hby hd))
    hf (fun h' W' => K h' W' (Arv.set A q1 hsz hz hH hG (fits_nar_byte _) W' _ rfl hl))
theorem iastore {a : Addr} {kc : ClassId} {z j x : Int32} {vs : List Value} {dv : Value} (hd : decode B pc = .ok (.iastore, 1)) (F : Arv Z h a kc .int z vs dv) (hj : ¬ j < 0 ∧ j < z) (hf : a ∈ fs) (hl : j.toNatClampNeg < vs.length) (hp : pc + 1 = pc')
    (K : ∀ h', Wr h h' a j.toNatClampNeg (.int x) → Arv Z h' a kc .int z (vs.set j.toNatClampNeg (.int x)) dv → Wq l nw Z EL a0 n0 y B ml ret R h0 Post fs h' ce sl pc' L S) : Wq l nw Z EL a0 n0 y B ml ret R h0 Post fs h ce sl pc L (.int x :: .int j :: .ref a :: S) := by
  obtain ⟨cl, A, q1, hsz, hz, hH, hG⟩ := F
  have hin := inb_of hsz hj
  exact wrote (fun hx hby hown hnm hZ hw hT X => by subst hp; exact stI X hx hZ hT A hin (g := mkF _ pc L (.int x :: .int j :: .ref a :: S)) rfl rfl (Jvm.hb hby hd))
    hf (fun h' W' => K h' W' (Arv.set A q1 hsz hz hH hG (rfl) W' _ rfl hl))
theorem cloneArr {i1 i2 i3 i4 i5 i6 ix Wd cap : Nat} {ad : String} {a : Addr} {kc : ClassId} {ty : FieldType} {z : Int32} {vs : List Value} {dv : Value} (hd : decode B pc = .ok (.invokevirtual ix, 3)) (w1 : tables_1[i1]? = some (.methodLink y.cls ix ⟨ad, "clone", "()Ljava/lang/Object;"⟩)) (w2 : tables_1[i2]? = some (.sameMethod ad "java/lang/Object" "clone" "()Ljava/lang/Object;")) (w3 : tables_1[i3]? = some (.native ⟨"java/lang/Object", "clone", "()Ljava/lang/Object;"⟩)) (w4 : tables_1[i4]? = some (.instanceMethod ⟨"java/lang/Object", "clone", "()Ljava/lang/Object;"⟩)) (w5 : tables_1[i5]? = some (.selects ad ⟨ad, "clone", "()Ljava/lang/Object;"⟩ ⟨"java/lang/Object", "clone", "()Ljava/lang/Object;"⟩)) (w6 : tables_1[i6]? = some (.castable ad "java/lang/Cloneable"))
    (F : Arv Z h a kc ty z vs dv) (E : Exa Z h a ad) (hsz : L.size = ml) (hfr : 1 ≤ R.frames) (hW : (S.map fun v => v.category).sum ≤ Wd) (hl : Wd + 14 ≤ R.locals) (hcap : z.toNatClampNeg ≤ cap) (hc : ce + 1 ≤ R.cells) (hs : sl + cap ≤ R.slots) (hp : pc + 3 = pc')
    (K : ∀ h' r, r = h.size → Ext h h' → Arv Z h' r kc ty z vs dv → Exa Z h' r ad → Wq l nw Z EL a0 n0 y B ml ret R h0 Post (r :: fs) h' (ce + 1) (sl + cap) pc' L (.ref r :: S)) : Wq l nw Z EL a0 n0 y B ml ret R h0 Post fs h ce sl pc L (.ref a :: S) :=
  grow (P := fun h' => Arv Z h' h.size kc ty z vs dv ∧ Exa Z h' h.size ad) (fun hx hby hown hZ hw hT hml X => by
    subst hp
    obtain ⟨T', h', X', e', Ex, A, E', st⟩ := cloneH X hx hZ hown (wat hw w1) (wat hw w2) (wat hw w3) (wat hw w4) (wat hw w5) (wat hw w6) hT F.arh E (g := mkF _ pc L (.ref a :: S)) rfl (hsz.trans hml.symm) rfl (Jvm.hb hby hd) hfr (W := Wd) (by show 2 * 0 + _ ≤ _; omega) hl hcap hc hs
    exact ⟨T', h', X', e', Ex, ⟨A, E'⟩, st⟩) (fs' := h.size :: fs) (fun x q => (List.mem_cons.mp q).symm) (fun h' _ q => q.1.lt) (fun h' Ex q => K h' _ rfl Ex q.1 q.2)
theorem checkcast {i ix : Nat} {C : String} {a : Addr} (hd : decode B pc = .ok (.checkcast ix, 3)) (w : tables_1[i]? = some (.classLink y.cls ix C)) (F : Ins Z h a C true) (hp : pc + 3 = pc') (K : Wq l nw Z EL a0 n0 y B ml ret R h0 Post fs h ce sl pc' L (.ref a :: S)) : Wq l nw Z EL a0 n0 y B ml ret R h0 Post fs h ce sl pc L (.ref a :: S) :=
  same (fun hx hby hown hZ hw hT _ X => by subst hp; exact castY X hx hZ hown (wat hw w) hT F (g := mkF _ pc L (.ref a :: S)) rfl rfl (Jvm.hb hby hd)) K
theorem checkcastNull {ix : Nat} (hd : decode B pc = .ok (.checkcast ix, 3)) (hp : pc + 3 = pc') (K : Wq l nw Z EL a0 n0 y B ml ret R h0 Post fs h ce sl pc' L (.null :: S)) : Wq l nw Z EL a0 n0 y B ml ret R h0 Post fs h ce sl pc L (.null :: S) :=
  same (fun {p e s m args below meth c T locs} hx hby hown hZ hw hT _ X => by subst hp; exact ⟨T, X, hT, X.checkcastNull hx (g := mkF _ pc L (.null :: S)) rfl rfl (Jvm.hb hby hd)⟩) K
theorem instanceofNull {ix : Nat} (hd : decode B pc = .ok (.instanceof ix, 3)) (hp : pc + 3 = pc') (K : Wq l nw Z EL a0 n0 y B ml ret R h0 Post fs h ce sl pc' L (.int 0 :: S)) : Wq l nw Z EL a0 n0 y B ml ret R h0 Post fs h ce sl pc L (.null :: S) :=
  same (fun {p e s m args below meth c T locs} hx hby hown hZ hw hT _ X => by subst hp; exact ⟨T, X, hT, X.instanceofNull hx (g := mkF _ pc L (.null :: S)) rfl rfl (Jvm.hb hby hd)⟩) K
theorem instanceofY {i ix : Nat} {C : String} {a : Addr} (hd : decode B pc = .ok (.instanceof ix, 3)) (w : tables_1[i]? = some (.classLink y.cls ix C)) (F : Ins Z h a C true) (hp : pc + 3 = pc') (K : Wq l nw Z EL a0 n0 y B ml ret R h0 Post fs h ce sl pc' L (.int 1 :: S)) : Wq l nw Z EL a0 n0 y B ml ret R h0 Post fs h ce sl pc L (.ref a :: S) :=
  same (fun hx hby hown hZ hw hT _ X => by subst hp; exact instY X hx hZ hown (wat hw w) hT F (g := mkF _ pc L (.ref a :: S)) rfl rfl (Jvm.hb hby hd)) K
theorem instanceofN {i ix : Nat} {C D : String} {a : Addr} (hd : decode B pc = .ok (.instanceof ix, 3)) (w : tables_1[i]? = some (.classLink y.cls ix C)) (E : Exa Z h a D) (F : ∃ c t, Z.vm.findClass D = some c ∧ Z.vm.findClass C = some t ∧ Z.vm.assignable c t = false) (hp : pc + 3 = pc') (K : Wq l nw Z EL a0 n0 y B ml ret R h0 Post fs h ce sl pc' L (.int 0 :: S)) : Wq l nw Z EL a0 n0 y B ml ret R h0 Post fs h ce sl pc L (.ref a :: S) :=
  same (fun hx hby hown hZ hw hT _ X => by subst hp; exact instNo X hx hZ hown (wat hw w) hT E F (g := mkF _ pc L (.ref a :: S)) rfl rfl (Jvm.hb hby hd)) K
theorem ldcInt {i ix : Nat} {v : Int32} (hd : decode B pc = .ok (.ldc ix, 2)) (w : tables_1[i]? = some (.constant y.cls ix v)) (hp : pc + 2 = pc') (K : Wq l nw Z EL a0 n0 y B ml ret R h0 Post fs h ce sl pc' L (.int v :: S)) : Wq l nw Z EL a0 n0 y B ml ret R h0 Post fs h ce sl pc L S :=
  same (fun {p e s m args below meth c T locs} hx hby hown hZ hw hT _ X => by subst hp; exact ⟨T, X, hT, X.ldcInt hx hown (mvT hZ (wat hw w)) (g := mkF _ pc L S) rfl (Jvm.hb hby hd)⟩) K
theorem ldc2Long {i ix : Nat} {v : Int64} (hd : decode B pc = .ok (.ldc2_w ix, 3)) (w : tables_1[i]? = some (.constantLong y.cls ix v)) (hp : pc + 3 = pc') (K : Wq l nw Z EL a0 n0 y B ml ret R h0 Post fs h ce sl pc' L (.long v :: S)) : Wq l nw Z EL a0 n0 y B ml ret R h0 Post fs h ce sl pc L S :=
  same (fun {p e s m args below meth c T locs} hx hby hown hZ hw hT _ X => by subst hp; exact ⟨T, X, hT, X.ldc2Long hx hown (mvT hZ (wat hw w)) (g := mkF _ pc L S) rfl (Jvm.hb hby hd)⟩) K
theorem ldc2Double {i ix : Nat} {v : UInt64} (hd : decode B pc = .ok (.ldc2_w ix, 3)) (w : tables_1[i]? = some (.constantDouble y.cls ix v)) (hp : pc + 3 = pc') (K : Wq l nw Z EL a0 n0 y B ml ret R h0 Post fs h ce sl pc' L (.double v :: S)) : Wq l nw Z EL a0 n0 y B ml ret R h0 Post fs h ce sl pc L S :=
  same (fun {p e s m args below meth c T locs} hx hby hown hZ hw hT _ X => by subst hp; exact ⟨T, X, hT, X.ldc2DoubleC hx hown (mvT hZ (wat hw w)) (g := mkF _ pc L S) rfl (Jvm.hb hby hd)⟩) K
theorem initObj {i i2 i3 ix Wd : Nat} {a : Addr} (hd : decode B pc = .ok (.invokespecial ix, 3)) (w : tables_1[i]? = some (.methodLink y.cls ix Lib.objectInit)) (w2 : tables_1[i2]? = some (.instanceMethod Lib.objectInit)) (w3 : tables_1[i3]? = some (.code Lib.objectInit object_method_1_code 1 none))
    (hsz : L.size = ml) (hfr : 1 ≤ R.frames) (hW : (S.map fun v => v.category).sum ≤ Wd) (hl : Wd + 12 ≤ R.locals) (hp : pc + 3 = pc') (K : Wq l nw Z EL a0 n0 y B ml ret R h0 Post fs h ce sl pc' L S) : Wq l nw Z EL a0 n0 y B ml ret R h0 Post fs h ce sl pc L (.ref a :: S) :=
  same (fun {p e s m args below meth c T locs} hx hby hown hZ hw hT hml X => by
    subst hp
    exact initO X hx hZ hown (wat hw w) (wat hw w2) (wat hw w3) hT (g := mkF _ pc L (.ref a :: S)) rfl (hsz.trans hml.symm) rfl (Jvm.hb hby hd) hfr (W := Wd) (by show 2 * 0 + _ ≤ _; omega) hl) K
/-- ldc of a String constant that EL names, its text read -/
theorem ldcStr {i ix n : Nat} {text : String} {vs : List Value} {z : Int32} (hd : decode B pc = .ok (.ldc ix, 2)) (w : tables_1[i]? = some (.stringLink y.cls ix text)) (hwS : ∀ d ∈ Bundle.stringAtoms, d ∈ tables_1) (hmem : (y.cls, ix) ∈ EL) (hnn : nw = false)
    (ht : (∀ c ∈ text.toList, c.toNat < 256) ∧ text.toList.map (fun c => Value.int (Jvm.Lit.byteI c.toNat.toUInt16)) = vs) (hz : ¬ z < 0) (hl : z.toNatClampNeg = vs.length) (hn : 4 * text.toList.length ≤ n) (hbig : n ≤ 536870912) (hc : ce + 2 ≤ R.cells) (hs : sl + (n + 4) ≤ R.slots) (hp : pc + 2 = pc')
    (K : ∀ h' a b kc, Ext h h' → Exa Z h' a "java/lang/String" → Fld Z h' a "java/lang/String" "coder" "B" (.int 0) → Fld Z h' a "java/lang/String" "value" "[B" (.ref b) → Arv Z h' b kc .byte z vs (.int 0) → (∀ x ∈ fs, x ≠ a ∧ x ≠ b) → Wq l nw Z EL a0 n0 y B ml ret R h0 Post fs h' (ce + 2) (sl + (n + 4)) pc' L (.ref a :: S)) : Wq l nw Z EL a0 n0 y B ml ret R h0 Post fs h ce sl pc L S := fun p e s m args below meth c T locs vm k C => by
  obtain ⟨⟨hx, hby, hml, hret, hlk, hnm, hown, hh0⟩, ⟨hZ, hw, hEL, hnw⟩, X, hT, ⟨hN, hO⟩, ⟨hS, hk⟩, hC, hF⟩ := C
  subst hp
  obtain ⟨a, T', h', k1, b, kc, X', e', E, hS', hk', hZ', hown', A, Co, Va, Ar, -, -, hC', -, hne, st⟩ := ldcCH X hx hZ hown (wat hw w) (fun d q => hw d (hwS d q)) hT hS hk hEL hmem hC.1 ht hz hl (g := mkF _ pc L S) rfl (Jvm.hb hby hd) hn hbig hc hs
  refine (K h' a b kc E A Co Va Ar (fun x r => hne x (hC'.safe (hF x r).2.1 (hF x r).2.2)) p e s m args below meth c T' locs T'.vm k1 ⟨⟨hx, hby, hml, hret, hlk, hnm, hown', hh0⟩, ⟨hZ', hw, hEL, fun q => by rw [hnn] at q; cases q⟩, X', e', ⟨hN, hO.ext E⟩, ⟨hS', hk'⟩, hC.trans hC', fun x r => ⟨(hF x r).1, Nat.lt_of_lt_of_le (hF x r).2.1 E.1, hC'.safe (hF x r).2.1 (hF x r).2.2⟩⟩).st st
/-- ldc of any String constant, nothing said of its text -/
theorem ldcAny {i ix n : Nat} {text : String} (hd : decode B pc = .ok (.ldc ix, 2)) (w : tables_1[i]? = some (.stringLink y.cls ix text)) (hwS : ∀ d ∈ Bundle.stringAtoms, d ∈ tables_1) (hnn : nw = false)
    (hn : 4 * text.toList.length ≤ n) (hbig : n ≤ 536870912) (hc : ce + 2 ≤ R.cells) (hs : sl + (n + 4) ≤ R.slots) (hp : pc + 2 = pc')
    (K : ∀ h' a, Ext h h' → Wq l nw Z EL a0 n0 y B ml ret R h0 Post fs h' (ce + 2) (sl + (n + 4)) pc' L (.ref a :: S)) : Wq l nw Z EL a0 n0 y B ml ret R h0 Post fs h ce sl pc L S := fun p e s m args below meth c T locs vm k C => by
  obtain ⟨⟨hx, hby, hml, hret, hlk, hnm, hown, hh0⟩, ⟨hZ, hw, hEL, hnw⟩, X, hT, ⟨hN, hO⟩, ⟨hS, hk⟩, hC, hF⟩ := C
  subst hp
  obtain ⟨a, T', h', k1, X', e', E, hS', hk', hZ', hown', hC', -, st⟩ := ldcOH X hx hZ hown (wat hw w) (fun d q => hw d (hwS d q)) hT hS hk hEL hC.1 (g := mkF _ pc L S) rfl (Jvm.hb hby hd) hn hbig hc hs
  refine (K h' a E p e s m args below meth c T' locs T'.vm k1 ⟨⟨hx, hby, hml, hret, hlk, hnm, hown', hh0⟩, ⟨hZ', hw, hEL, fun q => by rw [hnn] at q; cases q⟩, X', e', ⟨hN, hO.ext E⟩, ⟨hS', hk'⟩, hC.trans hC', fun x r => ⟨(hF x r).1, Nat.lt_of_lt_of_le (hF x r).2.1 E.1, hC'.safe (hF x r).2.1 (hF x r).2.2⟩⟩).st st
/-- the end of a walk -/
theorem leaves {v : Option Value} (hv : ret = none → v = none) (hc : ce ≤ R.cells) (hs : sl ≤ R.slots) (hP : Post v h) (st : ∀ {p : Program} {e : Env} {s : State} {m : MethodId} {args : Array Value} {below : List Frame} {meth : Method} {c : Code} {T : State} {locs : List Loc} {fs : List Frame}, p.tables.exec = Jvm.exec → c.code = B → meth.sig.returnType = ret →
      Stand p l e R s m args below meth c T locs ce sl → (∀ (f : JFrame) (acts : List Action), f.method = m → f.locked = none → f.entered = [] → (doReturn e (T.setTop f) acts v).1 = T.setFrames fs) → Steps p.tables e below (T.setTop (mkF m pc L S)) (T.setFrames fs)) : Wq l nw Z EL a0 n0 y B ml ret R h0 Post fs h ce sl pc L S := fun p e s m args below meth c T locs vm k C => by
  obtain ⟨⟨hx, hby, hml, hret, hlk, hnm, hown, hh0⟩, ⟨hZ, hw, hEL, hnw⟩, X, hT, ⟨hN, hO⟩, ⟨hS, hk⟩, hC, hF⟩ := C
  obtain ⟨fs', h1, h2, h3, hEnd⟩ := X.leaveW hS (by rw [hT]; exact hk) (v := v) (fun q => hv (hret.symm.trans q)) hlk
  have hwm : (s.setVm vm).WarmedH T.vm := X.warmed
  refine ⟨T.setFrames fs', .returned v, st hx hby hret X h1, h2, h3, v, locs, rfl, ?_, ⟨hN, ?_⟩, ?_, ⟨hEnd.1, hEnd.2.1, hEnd.2.2.1, hEnd.2.2.2.mono hc hs⟩, fun q => ?_⟩
  · show Post v T.heap
    rw [hT]; exact hP
  · show Old Z n0 T.heap
    rw [hT]; exact hO
  · show CHr Z EL s.vm h0 T.vm T.heap
    rw [hT]; exact hC.trans (CHv.at X hZ hEL hC.1)
  · show s.WarmedH T.vm
    obtain ⟨q1, -⟩ := hnw q
    subst q1; exact hwm
theorem retV (hd : decode B pc = .ok (.return_, 1)) (hr : ret = none) (hc : ce ≤ R.cells) (hs : sl ≤ R.slots) (hP : Post none h) : Wq l nw Z EL a0 n0 y B ml ret R h0 Post fs h ce sl pc L [] :=
  leaves (fun _ => rfl) hc hs hP (fun hx hby hret X hl => X.returnOut hx (hret.trans hr) (Jvm.hb hby hd) hl)
theorem retA {v : Value} {t : FieldType} (hd : decode B pc = .ok (.areturn, 1)) (hr : ret = some t) (ht : t.isReference = true) (hv : v.isRef = true) (hc : ce ≤ R.cells) (hs : sl ≤ R.slots) (hP : Post (some v) h) : Wq l nw Z EL a0 n0 y B ml ret R h0 Post fs h ce sl pc L (v :: S) :=
  leaves (fun q => by rw [hr] at q; cases q) hc hs hP (fun hx hby hret X hl => retOut X hx (hret.trans hr) (by rcases ref_cases hv with rfl | ⟨q, rfl⟩ <;> cases t <;> rfl) (Or.inr (Or.inr (Or.inr (Or.inr ⟨rfl, ht, hv⟩)))) (Jvm.hb hby hd) hl)
theorem retI {z : Int32} {t : FieldType} (hd : decode B pc = .ok (.ireturn, 1)) (hr : ret = some t) (ht : t = .int ∨ t = .boolean ∨ t = .byte ∨ t = .char ∨ t = .short) (hn : narrow t (.int z) = .int z) (hc : ce ≤ R.cells) (hs : sl ≤ R.slots) (hP : Post (some (.int z)) h) : Wq l nw Z EL a0 n0 y B ml ret R h0 Post fs h ce sl pc L (.int z :: S) :=
  leaves (fun q => by rw [hr] at q; cases q) hc hs hP (fun hx hby hret X hl => retOut X hx (hret.trans hr) hn (Or.inl ⟨rfl, ht, z, rfl⟩) (Jvm.hb hby hd) hl)
theorem retJ {z : Int64} (hd : decode B pc = .ok (.lreturn, 1)) (hr : ret = some .long) (hc : ce ≤ R.cells) (hs : sl ≤ R.slots) (hP : Post (some (.long z)) h) : Wq l nw Z EL a0 n0 y B ml ret R h0 Post fs h ce sl pc L (.long z :: S) :=
  leaves (fun q => by rw [hr] at q; cases q) hc hs hP (fun hx hby hret X hl => retOut X hx (hret.trans hr) rfl (Or.inr (Or.inl ⟨rfl, rfl, z, rfl⟩)) (Jvm.hb hby hd) hl)
theorem retD {z : UInt64} (hd : decode B pc = .ok (.dreturn, 1)) (hr : ret = some .double) (hc : ce ≤ R.cells) (hs : sl ≤ R.slots) (hP : Post (some (.double z)) h) : Wq l nw Z EL a0 n0 y B ml ret R h0 Post fs h ce sl pc L (.double z :: S) :=
  leaves (fun q => by rw [hr] at q; cases q) hc hs hP (fun hx hby hret X hl => retOut X hx (hret.trans hr) rfl (Or.inr (Or.inr (Or.inl ⟨rfl, rfl, z, rfl⟩))) (Jvm.hb hby hd) hl)
end Rules
section Calls
variable {l : Launch} {nw : Bool} {Z : State} {EL : List (String × Nat)} {a0 : Array Value} {n0 : Nat} {y : MethodName} {B : ByteArray} {ml : Nat} {ret : Option FieldType} {R : Room} {h0 : Heap} {Post : Option Value → Heap → Prop} {fs : List Addr} {h : Heap} {ce sl pc pc' : Nat} {L : Array Slot} {S : List Value}
def Met (l : Launch) (nw : Bool) (Z : State) (EL : List (String × Nat)) (n0 : Nat) (y : MethodName) (B : ByteArray) (ml : Nat) (ret : Option FieldType) (R : Room) (ws : List Jvm.Cond) (as' : Array Value) (fs : List Addr) (h : Heap) (Post : Option Value → Heap → Prop) : Prop :=
  MetFree l y (head1 (Jvm.Cond.code y B ml ret :: ws) R) (fun a U => a = as' ∧ Z.Warmed39 U.vm ∧ U.heap = h ∧ CHv Z EL U.vm h ∧ Old Z n0 h ∧ ∀ x ∈ fs, n0 ≤ x ∧ x < h.size ∧ Safe Z EL U.vm h x) (fun _ _ _ _ _ => True)
    (fun _ U o U' => ∃ v L, o = .returned v ∧ (Post v U'.heap ∧ Fr n0 L ∧ Old Z n0 U'.heap) ∧ CHr Z EL U.vm U.heap U'.vm U'.heap ∧ ReturnedEndW U o U' L R.cells R.slots ∧ (nw = true → U.WarmedH U'.vm))
theorem Met.mono {ws : List Jvm.Cond} {as' : Array Value} {Post' : Option Value → Heap → Prop} (M : Met l nw Z EL n0 y B ml ret R ws as' fs h Post) (hP : ∀ v h', Post v h' → Post' v h') : Met l nw Z EL n0 y B ml ret R ws as' fs h Post' :=
  MetFree.mono M (fun _ _ q => q) (fun _ _ _ _ _ q => q) (fun _ _ _ _ _ ⟨v, L, h1, ⟨h2, h3⟩, h4⟩ => ⟨v, L, h1, ⟨hP v _ h2, h3⟩, h4⟩)
theorem Met.of_body {ws : List Jvm.Cond} {as' : Array Value} {L0 : Array Slot} (hpl : plainFor y = true) (hent : ∀ m, entryFrame m as' ml = mkF m 0 L0 []) (hw : ∀ d ∈ tables_1, d.before a0 Z = true) (hEL : EW Z a0 EL) (hnw : nw = true → EL = [])
    (K : Wq l nw Z EL a0 n0 y B ml ret R h Post fs h 0 0 0 L0 []) : Met l nw Z EL n0 y B ml ret R ws as' fs h Post := by
  refine MetFree.of_bodySF hpl hisR ?_
  intro p e s m args below meth c s₁ Bd hml0 hP hK
  obtain ⟨rfl, hZ, hh, hCv, hO, hF⟩ := hP
  have X0 : Stand p l e R (s.setVm s.vm) m args below meth c s₁ [] 0 0 := Stand.of_body Bd
  have e0 : s₁.heap = h := by rw [← hh, Bd.state]; rfl
  have hml : c.maxLocals = ml := hml0
  obtain ⟨s₂, o, h1, h2, h3, v, L, h4, h5, h6, h7, h8, h9⟩ := K p e s m args below meth c s₁ [] s.vm 0 ⟨⟨Bd.exec, Bd.bytes, hml, Bd.returns, BodyLoose.notSynchronized Bd, (name_of_methodNamed Bd.named Bd.method).1, findClass_of_methodNamed Bd.named, hh⟩, ⟨hZ, hw, hEL, fun q => ⟨rfl, hnw q⟩⟩, X0, e0, ⟨Fr.nil n0, hO⟩, ⟨(State.WarmedH.refl s).since 0, Nat.zero_le _⟩, CHr.refl hCv, hF⟩
  exact ⟨s₂, o, castTop (hent m) h1, h2, h3, v, L, h4, ⟨h5, h6⟩, by rw [hh]; exact h7, h8, h9⟩
def Kd (l : Launch) (Z : State) (a0 : Array Value) (y : MethodName) (B : ByteArray) (ml : Nat) (R : Room) (h : Heap) (ce sl pc : Nat) (L : Array Slot) (S : List Value) (z : MethodName) (len Wd : Nat) (as' : Array Value) (S' : List Value) : Prop :=
  ∀ (p : Program) (e : Env) (s : State) (m : MethodId) (args : Array Value) (below : List Frame) (meth : Method) (c : Code) (T : State) (locs : List Loc), p.tables.exec = Jvm.exec → c.code = B → s.vm.findClass y.cls = some m.cls → Z.Warmed39 s.vm → (∀ d ∈ tables_1, d.before a0 Z = true) → T.heap = h → c.maxLocals = ml → Stand p l e R s m args below meth c T locs ce sl →
    (∀ (Pre : Pt → Array Value → Prop) (Po : Pt → Array Value → Option Value → Pt → Prop), Back l R p e below s args z len Wd Pre Po → (∀ vm₁, s.WarmedH vm₁ → Pre ⟨T.setVm vm₁, locs, ce, sl⟩ as') →
      ∃ (v : Option Value) (vm₁ : Vm) (A : Pt), s.WarmedH vm₁ ∧ Stand p l e R s m args below meth c A.U A.locs A.cells A.slots ∧ Po ⟨T.setVm vm₁, locs, ce, sl⟩ as' v A ∧ ∀ u, Steps p.tables e below (A.U.setTop (mkF m (pc + len) L (v.toList ++ S'))) u → Steps p.tables e below (T.setTop (mkF m pc L S)) u) ∧
    (∀ (Pre : Pt → Array Value → Prop) (Po : Pt → Array Value → Option Value → Pt → Prop), BackS l R p e below s args z len Wd Pre Po → (∀ vm₁, s.WarmedH vm₁ → Pre ⟨T.setVm vm₁, locs, ce, sl⟩ as') →
      ∃ (v : Option Value) (vm₁ : Vm) (A : Pt), s.WarmedH vm₁ ∧ Stand p l e R (s.setVm A.U.vm) m args below meth c A.U A.locs A.cells A.slots ∧ s.Since A.U.vm A.U.heap.size ∧ T.heap.size ≤ A.U.heap.size ∧ Po ⟨T.setVm vm₁, locs, ce, sl⟩ as' v A ∧ ∀ u, Steps p.tables e below (A.U.setTop (mkF m (pc + len) L (v.toList ++ S'))) u → Steps p.tables e below (T.setTop (mkF m pc L S)) u)
theorem kStatic {i i2 i3 i4 ix mlz Wd : Nat} {z : MethodName} {Bz : ByteArray} {retz : Option FieldType} {argsL S' : List Value} {ps : List FieldType} {rz : Option FieldType} (hd : decode B pc = .ok (.invokestatic ix, 3)) (w : tables_1[i]? = some (.methodLink y.cls ix z)) (w2 : tables_1[i2]? = some (.static z)) (w3 : tables_1[i3]? = some (.initialized z.cls)) (w4 : tables_1[i4]? = some (.code z Bz mlz retz))
    (hy : z.cls ≠ "java/lang/invoke/MethodHandle" ∧ z.cls ≠ "java/lang/invoke/VarHandle") (hsz : L.size = ml) (hpd : parseMethodDescriptor z.desc = some ⟨ps, rz⟩) (hlen : argsL.length = ps.length) (hst : S = argsL.reverse ++ S') (hW : (S'.map fun v => v.category).sum ≤ Wd) : Kd l Z a0 y B ml R h ce sl pc L S z 3 Wd argsL.toArray S' :=
  fun p e s m args below meth c T locs hx hby hown hZ hw hT hml X =>
  ⟨fun Pre Po hK hpre => by
    obtain ⟨v, vm₁, A, a1, a2, a3, a4⟩ := Jvm.LawKit.callS X hx hown (mvT hZ (wat hw w)) (mvT hZ (wat hw w2)) (mvT hZ (wat hw w3)) (mvT hZ (wat hw w4)) hy hK (g := mkF m pc L S) rfl (hsz.trans hml.symm) (argsL := argsL) (rest := S') (lenOf hpd hlen) hst (by show 2 * 0 + _ ≤ _; omega) (Jvm.hb hby hd) hpre
    exact ⟨v, vm₁, A, a1, a2, a3, a4⟩,
   fun Pre Po hK hpre => by
    obtain ⟨v, vm₁, A, a1, a2, a3, a4, a5, a6⟩ := callSS X hx hown (mvT hZ (wat hw w)) (mvT hZ (wat hw w2)) (mvT hZ (wat hw w3)) (mvT hZ (wat hw w4)) hy hK (g := mkF m pc L S) rfl (hsz.trans hml.symm) (argsL := argsL) (rest := S') (lenOf hpd hlen) hst (by show 2 * 0 + _ ≤ _; omega) (Jvm.hb hby hd) hpre
    exact ⟨v, vm₁, A, a1, a2, a3, a4, a5, fun u q => a6.trans q⟩⟩
theorem kInit {i i2 i4 ix mlz Wd : Nat} {z : MethodName} {Bz : ByteArray} {argsL S' : List Value} {a : Addr} {ps : List FieldType} {rz : Option FieldType} (hd : decode B pc = .ok (.invokespecial ix, 3)) (hz : z.name = "<init>") (w : tables_1[i]? = some (.methodLink y.cls ix z)) (w2 : tables_1[i2]? = some (.instanceMethod z)) (w4 : tables_1[i4]? = some (.code z Bz mlz none))
    (hy : z.cls ≠ "java/lang/invoke/MethodHandle" ∧ z.cls ≠ "java/lang/invoke/VarHandle") (hsz : L.size = ml) (hpd : parseMethodDescriptor z.desc = some ⟨ps, rz⟩) (hlen : argsL.length = ps.length) (hst : S = argsL.reverse ++ .ref a :: S') (hW : (S'.map fun v => v.category).sum ≤ Wd) : Kd l Z a0 y B ml R h ce sl pc L S z 3 Wd (.ref a :: argsL).toArray S' :=
  fun p e s m args below meth c T locs hx hby hown hZ hw hT hml X =>
  ⟨fun Pre Po hK hpre => by
    obtain ⟨v, vm₁, A, a1, a2, a3, a4⟩ := X.specialBack hx hz hown (mvT hZ (wat hw w)) (mvT hZ (wat hw w2)) (mvT hZ (wat hw w4)) hy hK (g := mkF m pc L S) rfl (hsz.trans hml.symm) (Steps.refl _) (a := a) (argsL := argsL) (rest := S') (lenOf hpd hlen) hst (by show 2 * 0 + _ ≤ _; omega) (Jvm.hb hby hd) hpre
    exact ⟨v, vm₁, A, a1, a2, a3, fun u q => a4.trans q⟩,
   fun Pre Po hK hpre => by
    obtain ⟨v, vm₁, A, a1, a2, a3, a4, a5, a6⟩ := X.specialBackS hx hz hown (mvT hZ (wat hw w)) (mvT hZ (wat hw w2)) (mvT hZ (wat hw w4)) hy hK (g := mkF m pc L S) rfl (hsz.trans hml.symm) (Steps.refl _) (a := a) (argsL := argsL) (rest := S') (lenOf hpd hlen) hst (by show 2 * 0 + _ ≤ _; omega) (Jvm.hb hby hd) hpre
    exact ⟨v, vm₁, A, a1, a2, a3, a4, a5, fun u q => a6.trans q⟩⟩
theorem kVirt {i i2 i3 i4 ix Wd : Nat} {z : MethodName} {C : String} {argsL S' : List Value} {a : Addr} {ps : List FieldType} {rz : Option FieldType} (hd : decode B pc = .ok (.invokevirtual ix, 3)) (w : tables_1[i]? = some (.methodLink y.cls ix z)) (w2 : tables_1[i2]? = some (.declares z)) (w3 : tables_1[i3]? = some (.selects C z z)) (w4 : tables_1[i4]? = some (.instanceMethod z)) (E : Exa Z h a C)
    (hy : z.cls ≠ "java/lang/invoke/MethodHandle" ∧ z.cls ≠ "java/lang/invoke/VarHandle") (hsz : L.size = ml) (hpd : parseMethodDescriptor z.desc = some ⟨ps, rz⟩) (hlen : argsL.length = ps.length) (hst : S = argsL.reverse ++ .ref a :: S') (hW : (S'.map fun v => v.category).sum ≤ Wd) : Kd l Z a0 y B ml R h ce sl pc L S z 3 Wd (.ref a :: argsL).toArray S' :=
  fun p e s m args below meth c T locs hx hby hown hZ hw hT hml X => by
  obtain ⟨cB, kB, q1, q2, q3⟩ := isOf (s := s) (T := T) hZ hT E
  refine ⟨fun Pre Po hK hpre => ?_, fun Pre Po hK hpre => ?_⟩
  · obtain ⟨v, vm₁, A, a1, a2, a3, a4⟩ := X.virtualBack hx hown (mvT hZ (wat hw w)) (mvT hZ (wat hw w2)) (notFace_of_selects (args := #[]) (mvT hZ (wat hw w3))) (mvT hZ (wat hw w3)) (mvT hZ (wat hw w4)) hy hK q1 q3 (g := mkF m pc L S) rfl (hsz.trans hml.symm) (Steps.refl _) (argsL := argsL) (rest := S') (lenOf hpd hlen) hst (by show 2 * 0 + _ ≤ _; omega) (Jvm.hb hby hd) hpre
    exact ⟨v, vm₁, A, a1, a2, a3, fun u q => a4.trans q⟩
  · obtain ⟨v, vm₁, A, a1, a2, a3, a4, a5, a6⟩ := X.virtualBackS hx hown (mvT hZ (wat hw w)) (mvT hZ (wat hw w2)) (notFace_of_selects (args := #[]) (mvT hZ (wat hw w3))) (mvT hZ (wat hw w3)) (mvT hZ (wat hw w4)) hy hK q1 q3 (g := mkF m pc L S) rfl (hsz.trans hml.symm) (Steps.refl _) (argsL := argsL) (rest := S') (lenOf hpd hlen) hst (by show 2 * 0 + _ ≤ _; omega) (Jvm.hb hby hd) hpre
    exact ⟨v, vm₁, A, a1, a2, a3, a4, a5, fun u q => a6.trans q⟩
theorem nilBk {vm : Vm} {x : Addr} : Safe Z [] vm h x := fun ⟨_, q, _⟩ => nomatch q
theorem nilCHv {vm : Vm} : CHv Z [] vm h := fun _ q => nomatch q
theorem nilCHr {vm vm1 : Vm} {h' : Heap} (q : h.size ≤ h'.size) : CHr Z [] vm h vm1 h' := ⟨nilCHv, q, fun _ ⟨_, r, _⟩ => nomatch r⟩
/-- a callee by its contract, as the library's calls take it -/
theorem Met.backS {p : Program} {e : Env} {below : List Frame} {s : State} {args : Array Value} {vm : Vm} {z : MethodName} {Bz : ByteArray} {mlz len Wd : Nat} {retz : Option FieldType} {Rz : Room} {as' : Array Value} {fs' : List Addr} {Pz : Option Value → Heap → Prop}
    (M : Met l nw Z EL n0 z Bz mlz retz Rz [] as' fs' h Pz) (hZ : Z.Warmed39 vm) (wc : (Jvm.Cond.code z Bz mlz retz).before a0 Z = true) (wz : (Jvm.Cond.initialized z.cls).before a0 Z = true) (hf : Rz.frames + 1 ≤ R.frames) (hl : Wd + (mlz + 11) + Rz.locals ≤ R.locals) (hEL : EW Z a0 EL) (H : CHv Z EL vm h) (hO : Old Z n0 h) (hF : ∀ x ∈ fs', n0 ≤ x ∧ x < h.size ∧ Safe Z EL vm h x) :
    BackS l R p e below (s.setVm vm) args z len Wd (fun A a => a = as' ∧ A.U.heap = h ∧ A.cells + Rz.cells ≤ R.cells ∧ A.slots + Rz.slots ≤ R.slots)
      (fun A _ v A' => ∃ Lo, (Pz v A'.U.heap ∧ Fr n0 Lo ∧ Old Z n0 A'.U.heap) ∧ A'.locs = A.locs ++ Lo ∧ A'.cells = A.cells + Rz.cells ∧ A'.slots = A.slots + Rz.slots ∧ CHr Z EL vm h A'.U.vm A'.U.heap) :=
  BackS.of_freeW (bytes := Bz) (maxL := mlz) (ret := retz) (E := fun _ first o t Lo k n => k = Rz.cells ∧ n = Rz.slots ∧ (∃ v, o = .returned v ∧ Pz v t.heap ∧ Fr n0 Lo ∧ Old Z n0 t.heap) ∧ CHr Z EL first.vm first.heap t.vm t.heap) M hf hl
    (fun m meth c A a Y hp => have hU : Z.Warmed39 A.U.vm := wtrans (s := s.setVm vm) hZ Y.warmed
      ⟨by show (Cond.and _ .tt).before a A.U = true; rw [Cond.before_and, mv hU wc]; rfl, mv hU wc, mv hU wz, hp.2.2.1, hp.2.2.2⟩)
    (fun m meth c A a g mk Y hp => ⟨hp.1, wtrans (s := s.setVm vm) hZ Y.warmed, hp.2.1, (CHv.at Y hZ hEL H).1, hO, fun x q => ⟨(hF x q).1, (hF x q).2.1, (CHv.at Y hZ hEL H).safe (hF x q).2.1 (hF x q).2.2⟩⟩) (fun _ _ _ _ _ _ _ _ _ => trivial)
    (fun _ _ _ _ ⟨v, Lo, h1, h2, h3, h4, _⟩ => ⟨Lo, _, _, h4, rfl, rfl, ⟨v, h1, h2⟩, h3⟩)
    (fun m meth c A a g mk v t Lo k n Y hp _ _ ⟨e1, e2, ⟨v', e3, e4⟩, e5⟩ => by
      cases e3; subst e1 e2
      refine ⟨Lo, e4, rfl, rfl, rfl, (CHv.at Y hZ hEL H).trans ?_⟩
      rw [← hp.2.1]; exact e5)
theorem call {i i2 : Nat} {z : MethodName} {Bz : ByteArray} {mlz len Wd : Nat} {retz : Option FieldType} {Rz : Room} {as' : Array Value} {fs' : List Addr} {Pz : Option Value → Heap → Prop} {S' : List Value} (kd : Kd l Z a0 y B ml R h ce sl pc L S z len Wd as' S') (M : Met l nw Z EL n0 z Bz mlz retz Rz [] as' fs' h Pz) (wc : tables_1[i]? = some (.code z Bz mlz retz)) (wz : tables_1[i2]? = some (.initialized z.cls))
    (hfs : ∀ x ∈ fs', x ∈ fs) (hf : Rz.frames + 1 ≤ R.frames) (hl : Wd + (mlz + 11) + Rz.locals ≤ R.locals) (hc : ce + Rz.cells ≤ R.cells) (hs : sl + Rz.slots ≤ R.slots) (hp : pc + len = pc')
    (K : ∀ v h', Pz v h' → h.size ≤ h'.size → Wq l nw Z EL a0 n0 y B ml ret R h0 Post fs h' (ce + Rz.cells) (sl + Rz.slots) pc' L (v.toList ++ S')) : Wq l nw Z EL a0 n0 y B ml ret R h0 Post fs h ce sl pc L S := fun p e s m args below meth c T locs vm k C => by
  obtain ⟨⟨hx, hby, hml, hret, hlk, hnm, hown, hh0⟩, ⟨hZ, hw, hEL, hnw⟩, X, hT, ⟨hN, hO⟩, ⟨hS, hk⟩, hC, hF⟩ := C
  subst hp
  cases hq : nw with
  | true =>
    obtain ⟨q1, rfl⟩ := hnw hq
    have M' : MetFree l z (head1 [Jvm.Cond.code z Bz mlz retz] Rz) (fun a U => a = as' ∧ Z.Warmed39 U.vm ∧ U.heap = h) (fun _ _ _ _ _ => True) (fun _ U o U' => ∃ v Lo, o = .returned v ∧ (Pz v U'.heap ∧ Fr n0 Lo ∧ Old Z n0 U'.heap ∧ h.size ≤ U'.heap.size) ∧ FrameEnd U o U' Lo Rz.cells Rz.slots) :=
      MetFree.mono M (fun a U q => ⟨q.1, q.2.1, q.2.2, nilCHv, hO, fun x r => ⟨(hF x (hfs x r)).1, (hF x (hfs x r)).2.1, nilBk⟩⟩) (fun _ _ _ _ _ q => q) (fun a U o U' hP ⟨v, Lo, h1, h2, h3, h4, h5⟩ => ⟨v, Lo, h1, ⟨h2.1, h2.2.1, h2.2.2, by have := h3.2.1; rw [hP.2.2] at this; exact this⟩, ⟨v, h1⟩, h5 hq, h4.2.2.2⟩)
    obtain ⟨v, vm₁, ⟨T', L', c', n'⟩, -, X', ⟨Lo, ⟨hP, hN', hO', hsz⟩, l1, l2, l3⟩, st⟩ := (kd p e (s.setVm vm) m args below meth c T locs hx hby hown hZ hw hT hml X).1 _ _ (backOf (W := Wd) (s := s.setVm vm) (Q := fun v h' Lo => Pz v h' ∧ Fr n0 Lo ∧ Old Z n0 h' ∧ h.size ≤ h'.size) M' hZ (wat hw wc) (wat hw wz) hf hl) (fun vm₁ _ => ⟨rfl, hT, hc, hs⟩)
    dsimp only [Pt.U, Pt.locs, Pt.cells, Pt.slots] at X' hP hO' hsz l1 l2 l3 st
    subst l1 l2 l3
    have := K v T'.heap hP hsz p e s m args below meth c T' _ vm k ⟨⟨hx, hby, hml, hret, hlk, hnm, hown, hh0⟩, ⟨hZ, hw, hEL, hnw⟩, X', rfl, ⟨hN.app hN', hO'⟩, ⟨hS, Nat.le_trans hk hsz⟩, nilCHr (Nat.le_trans hC.2.1 hsz), fun x r => ⟨(hF x r).1, Nat.lt_of_lt_of_le (hF x r).2.1 hsz, nilBk⟩⟩
    rw [hq] at this
    exact this.st st
  | false =>
    obtain ⟨v, vm₁, ⟨T', L', c', n'⟩, -, X', hS', hsz, ⟨Lo, ⟨hP, hN', hO'⟩, l1, l2, l3, hC'⟩, st⟩ := (kd p e (s.setVm vm) m args below meth c T locs hx hby hown hZ hw hT hml X).2 _ _ (Met.backS (R := R) (Wd := Wd) (a0 := a0) M hZ (wat hw wc) (wat hw wz) hf hl hEL hC.1 hO (fun x r => hF x (hfs x r))) (fun vm₁ _ => ⟨rfl, hT, hc, hs⟩)
    dsimp only [Pt.U, Pt.locs, Pt.cells, Pt.slots] at X' hP hO' hS' hsz l1 l2 l3 hC' st
    subst l1 l2 l3
    have hsz' : h.size ≤ T'.heap.size := by rw [← hT]; exact hsz
    have hW2 : (s.setVm vm).Warmed39 T'.vm := hS'.1
    have hZ' : Z.Warmed39 T'.vm := State.Warmed39.trans (t := s.setVm vm) hZ hW2
    have := K v T'.heap hP hsz' p e s m args below meth c T' _ T'.vm T'.heap.size ⟨⟨hx, hby, hml, hret, hlk, hnm, by rw [hW2.alike.findClass]; exact hown, hh0⟩, ⟨hZ', hw, hEL, fun q => by rw [hq] at q; cases q⟩, X', rfl, ⟨hN.app hN', hO'⟩, ⟨hS.trans hS' (Nat.le_trans hk hsz'), Nat.le_refl _⟩, hC.trans hC', fun x r => ⟨(hF x r).1, Nat.lt_of_lt_of_le (hF x r).2.1 hsz', hC'.safe (hF x r).2.1 (hF x r).2.2⟩⟩
    rw [hq] at this
    exact this.st st
/-- a callee by a law of the library's (or pasted) shape -/
theorem callB {z : MethodName} {len Wd kc ks : Nat} {as' : Array Value} {Qb : Option Value → Heap → List Loc → Prop} {S' : List Value} {ws : List Addr} (kd : Kd l Z a0 y B ml R h ce sl pc L S z len Wd as' S')
    (hK : ∀ {p : Program} {e : Env} {below : List Frame} {s : State} {args : Array Value}, Z.Warmed39 s.vm → (∀ d ∈ tables_1, d.before a0 Z = true) → Back l R p e below s args z len Wd (fun A a => a = as' ∧ A.U.heap = h ∧ A.cells + kc ≤ R.cells ∧ A.slots + ks ≤ R.slots) (fun A _ v A' => ∃ Lo, Qb v A'.U.heap Lo ∧ A'.locs = A.locs ++ Lo ∧ A'.cells = A.cells + kc ∧ A'.slots = A.slots + ks))
    (hws : ∀ x ∈ ws, x ∈ fs) (hQ : ∀ v h' Lo, Qb v h' Lo → Fr n0 Lo ∧ Keep h h' ws) (hc : ce + kc ≤ R.cells) (hs : sl + ks ≤ R.slots) (hp : pc + len = pc')
    (K : ∀ v h' Lo, Qb v h' Lo → Wq l nw Z EL a0 n0 y B ml ret R h0 Post fs h' (ce + kc) (sl + ks) pc' L (v.toList ++ S')) : Wq l nw Z EL a0 n0 y B ml ret R h0 Post fs h ce sl pc L S := fun p e s m args below meth c T locs vm k C => by
  obtain ⟨⟨hx, hby, hml, hret, hlk, hnm, hown, hh0⟩, ⟨hZ, hw, hEL, hnw⟩, X, hT, ⟨hN, hO⟩, ⟨hS, hk⟩, hC, hF⟩ := C
  subst hp
  obtain ⟨v, vm₁, ⟨T', L', c', n'⟩, -, X', ⟨Lo, hP, l1, l2, l3⟩, st⟩ := (kd p e (s.setVm vm) m args below meth c T locs hx hby hown hZ hw hT hml X).1 _ _ (hK (s := s.setVm vm) hZ hw) (fun vm₁ _ => ⟨rfl, hT, hc, hs⟩)
  dsimp only [Pt.U, Pt.locs, Pt.cells, Pt.slots] at X' hP l1 l2 l3 st
  subst l1 l2 l3
  obtain ⟨hN', hKp⟩ := hQ v _ Lo hP
  have hsf : ∀ x ∈ ws, Safe Z EL vm h x := fun x r => (hF x (hws x r)).2.2
  exact (K v T'.heap Lo hP p e s m args below meth c T' _ vm k ⟨⟨hx, hby, hml, hret, hlk, hnm, hown, hh0⟩, ⟨hZ, hw, hEL, hnw⟩, X', rfl, ⟨hN.app hN', hO.keep hKp (fun x r => (hF x (hws x r)).1)⟩, ⟨hS, Nat.le_trans hk hKp.1⟩, hC.trans (CHr.keep hKp hsf hC.1), fun x r => ⟨(hF x r).1, Nat.lt_of_lt_of_le (hF x r).2.1 hKp.1, Safe.keep hKp hsf hC.1 (hF x r).2.2⟩⟩).st st
end Calls
end Ow
end Jvm.Pilot.@@N@@
namespace Jvm.Pilot.@@N@@
namespace Fp
open Jvm.FP.Core
/-- x is the number i / 2^k, exactly -/
def Ex (x : Datum) (i k : Nat) : Prop := ∃ (c : Nat) (q : Int), x = .fin false c q ∧ c * 2 ^ (q + k).toNat = i * 2 ^ (-(q + k)).toNat
theorem cancel {x y m n a b : Nat} (h : x * 2 ^ m = y * 2 ^ n) (e : (m : Int) - n = (a : Int) - b) : x * 2 ^ a = y * 2 ^ b := by
  rcases Nat.le_total a m with q | q
  · obtain ⟨t, rfl⟩ := Nat.exists_eq_add_of_le q
    obtain rfl : n = b + t := by omega
    rw [Nat.pow_add, Nat.pow_add, ← Nat.mul_assoc, ← Nat.mul_assoc] at h
    exact Nat.eq_of_mul_eq_mul_right (Nat.two_pow_pos t) h
  · obtain ⟨t, rfl⟩ := Nat.exists_eq_add_of_le q
    obtain rfl : b = n + t := by omega
    rw [Nat.pow_add, Nat.pow_add, ← Nat.mul_assoc, ← Nat.mul_assoc, h]
/-- a small number over a small power of two is a double -/
theorem rr_ex {i k : Nat} (hi : i < 2 ^ 53) (hk : k ≤ 100) : Ex (roundRatio b64 false i 1 (-(k : Int))) i k := by
  rcases Nat.eq_zero_or_pos i with rfl | hp
  · exact ⟨0, b64.qmin, by simp [roundRatio], by simp⟩
  · have hl : i.log2 ≤ 52 := by
      have := (Nat.log2_lt (by omega)).mpr hi
      omega
    have h1 : 2 ^ i.log2 ≤ i := Nat.log2_self_le (by omega)
    have h2 : i < 2 ^ (i.log2 + 1) := Nat.lt_log2_self
    have e1 : 2 ^ i.log2 * 2 ^ (52 - i.log2) = 2 ^ 52 := by rw [← Nat.pow_add]; congr 1; omega
    have e2 : 2 ^ (i.log2 + 1) * 2 ^ (52 - i.log2) = 2 ^ 53 := by rw [← Nat.pow_add]; congr 1; omega
    have h3 : 2 ^ 52 ≤ i * 2 ^ (52 - i.log2) := by rw [← e1]; exact Nat.mul_le_mul_right _ h1
    have h4 : i * 2 ^ (52 - i.log2) < 2 ^ 53 := by rw [← e2]; exact Nat.mul_lt_mul_of_pos_right h2 (Nat.two_pow_pos _)
    refine ⟨i * 2 ^ (52 - i.log2), -((52 - i.log2 : Nat) : Int) - k, ?_, ?_⟩
    · refine roundRatio_exact good_b64 (by decide) ⟨h4, ?_, ?_, Or.inr h3⟩ ?_
      · show (-1074 : Int) ≤ _; omega
      · show _ ≤ (971 : Int); omega
      · rw [show (-(k : Int) - (-((52 - i.log2 : Nat) : Int) - k)).toNat = 52 - i.log2 by omega, show ((-((52 - i.log2 : Nat) : Int) - k) - -(k : Int)).toNat = 0 by omega]; simp
    · rw [show (-((52 - i.log2 : Nat) : Int) - k + k).toNat = 0 by omega, show (-(-((52 - i.log2 : Nat) : Int) - k + k)).toNat = 52 - i.log2 by omega]; simp
theorem ex_quot {x z : Datum} {i k j l : Nat} (hx : Ex x i k) (hz : Ex z j l) (hj : 0 < j) : quotient b64 x z = roundRatio b64 false i j ((l : Int) - k) := by
  obtain ⟨c, q, rfl, h1⟩ := hx
  obtain ⟨d, r, rfl, h2⟩ := hz
  have hd : d ≠ 0 := fun e => by subst e; rw [Nat.zero_mul] at h2; have := Nat.two_pow_pos (-(r + l)).toNat; exact absurd h2.symm (Nat.ne_of_gt (Nat.mul_pos hj this))
  show (if d = 0 then _ else roundRatio b64 (false != false) c d (q - r)) = _
  rw [if_neg hd]
  refine roundRatio_congr (by omega) hj ?_
  refine cancel (m := (q + k).toNat + (-(r + l)).toNat) (n := (-(q + k)).toNat + (r + l).toNat) ?_ (by omega)
  calc c * j * 2 ^ ((q + k).toNat + (-(r + l)).toNat) = (c * 2 ^ (q + k).toNat) * (j * 2 ^ (-(r + l)).toNat) := by rw [Nat.pow_add]; ac_rfl
    _ = (i * 2 ^ (-(q + k)).toNat) * (d * 2 ^ (r + l).toNat) := by rw [h1, h2]
    _ = i * d * 2 ^ ((-(q + k)).toNat + (r + l).toNat) := by rw [Nat.pow_add]; ac_rfl
theorem ex_prod {x z : Datum} {i k j l : Nat} (hx : Ex x i k) (hz : Ex z j l) : round b64 (exactProduct x z) = roundRatio b64 false (i * j) 1 (-((k + l : Nat) : Int)) := by
  obtain ⟨c, q, rfl, h1⟩ := hx
  obtain ⟨d, r, rfl, h2⟩ := hz
  show roundRatio b64 (false != false) (c * d) 1 (q + r) = _
  refine roundRatio_congr (by decide) (by decide) ?_
  refine cancel (m := (q + k).toNat + (r + l).toNat) (n := (-(q + k)).toNat + (-(r + l)).toNat) ?_ (by omega)
  calc c * d * 1 * 2 ^ ((q + k).toNat + (r + l).toNat) = (c * 2 ^ (q + k).toNat) * (d * 2 ^ (r + l).toNat) := by rw [Nat.pow_add, Nat.mul_one]; ac_rfl
    _ = (i * 2 ^ (-(q + k)).toNat) * (j * 2 ^ (-(r + l)).toNat) := by rw [h1, h2]
    _ = i * j * 1 * 2 ^ ((-(q + k)).toNat + (-(r + l)).toNat) := by rw [Nat.pow_add, Nat.mul_one]; ac_rfl
theorem ex_diff {x z : Datum} {i j k : Nat} (hx : Ex x i k) (hz : Ex z j k) (hij : j ≤ i) : round b64 (exactSum x (negate z)) = roundRatio b64 false (i - j) 1 (-(k : Int)) := by
  obtain ⟨c, q, rfl, h1⟩ := hx
  obtain ⟨d, r, rfl, h2⟩ := hz
  have hm1 : min q r ≤ q := Int.min_le_left ..
  have hm2 : min q r ≤ r := Int.min_le_right ..
  generalize hm : min q r = m at hm1 hm2
  have a1 : inUnits c q m * 2 ^ (m + k).toNat = i * 2 ^ (-(m + k)).toNat := by
    unfold inUnits
    rw [Nat.mul_assoc, ← Nat.pow_add]
    exact cancel h1 (by omega)
  have a2 : inUnits d r m * 2 ^ (m + k).toNat = j * 2 ^ (-(m + k)).toNat := by
    unfold inUnits
    rw [Nat.mul_assoc, ← Nat.pow_add]
    exact cancel h2 (by omega)
  have hle : inUnits d r m ≤ inUnits c q m := by
    refine Nat.le_of_mul_le_mul_right ?_ (Nat.two_pow_pos (m + k).toNat)
    rw [a1, a2]
    exact Nat.mul_le_mul_right _ hij
  have hv : sumUnits false c q (!false) d r m = ((inUnits c q m - inUnits d r m : Nat) : Int) := by
    simp only [sumUnits, signed, Bool.not_false, if_true, Bool.false_eq_true, if_false]
    omega
  show round b64 (.fin (sumSign false (!false) (sumUnits false c q (!false) d r (min q r))) (sumUnits false c q (!false) d r (min q r)).natAbs (min q r)) = _
  rw [hm, hv]
  have hs : sumSign false (!false) ((inUnits c q m - inUnits d r m : Nat) : Int) = false := by
    unfold sumSign
    split
    · rfl
    · simp
  rw [hs, Int.natAbs_natCast]
  show roundRatio b64 false _ 1 m = _
  refine roundRatio_congr (by decide) (by decide) ?_
  refine cancel (m := (m + k).toNat) (n := (-(m + k)).toNat) ?_ (by omega)
  rw [Nat.mul_one, Nat.mul_one, Nat.sub_mul, Nat.sub_mul, a1, a2]
theorem rr_step (i k t : Nat) : roundRatio b64 false (i * 2 ^ t) 1 (-((k + t : Nat) : Int)) = roundRatio b64 false i 1 (-(k : Int)) := by
  refine roundRatio_congr (by decide) (by decide) ?_
  rw [show (-((k + t : Nat) : Int) - -(k : Int)).toNat = 0 by omega, show (-(k : Int) - -((k + t : Nat) : Int)).toNat = t by omega]
  simp
end Fp
end Jvm.Pilot.@@N@@
namespace Jvm.Pilot.@@N@@
namespace Fp
open Jvm.FP.Core
theorem ex_scale {x : Datum} {i k : Nat} (t : Nat) (h : Ex x i k) : Ex x (i * 2 ^ t) (k + t) := by
  obtain ⟨c, q, rfl, e⟩ := h
  refine ⟨c, q, rfl, ?_⟩
  refine cancel (m := (q + k).toNat + t) (n := (-(q + k)).toNat) (x := c) (y := i * 2 ^ t) ?_ (by omega)
  rw [Nat.pow_add, ← Nat.mul_assoc, e]; ac_rfl
theorem ex_nan {x : Datum} {i k : Nat} (h : Ex x i k) : x ≠ .nan := by obtain ⟨c, q, rfl, -⟩ := h; exact Datum.noConfusion
theorem no {x : UInt64} {i k : Nat} (h : Ex (val64 x) i k) : Jvm.Free.Fl.NoNaN64 x := Jvm.Free.Fl.val64_no.mpr (ex_nan h)
theorem ex_i2d {a : Int32} {A : Nat} (h : a.toInt = A) (hA : A < 2 ^ 53) : Ex (val64 (Jvm.FP.i2d a)) A 0 := by
  have e : val64 (Jvm.FP.i2d a) = round b64 (ofInt a.toInt) := val64_i2d a
  rw [e, h]
  show Ex (roundRatio b64 (decide ((A : Int) < 0)) (A : Int).natAbs 1 0) A 0
  rw [show decide ((A : Int) < 0) = false by simp, Int.natAbs_natCast]
  have q := rr_ex (k := 0) hA (by decide)
  rw [show (-((0 : Nat) : Int)) = 0 from rfl] at q
  exact q
theorem ex_l2d {a : Int64} {A : Nat} (h : a.toInt = A) (hA : A < 2 ^ 53) : Ex (val64 (Jvm.FP.l2d a)) A 0 := by
  have e : val64 (Jvm.FP.l2d a) = round b64 (ofInt a.toInt) := val64_l2d a
  rw [e, h]
  show Ex (roundRatio b64 (decide ((A : Int) < 0)) (A : Int).natAbs 1 0) A 0
  rw [show decide ((A : Int) < 0) = false by simp, Int.natAbs_natCast]
  have q := rr_ex (k := 0) hA (by decide)
  rw [show (-((0 : Nat) : Int)) = 0 from rfl] at q
  exact q
abbrev C20 : UInt64 := 4697254411347427328
abbrev ONE : UInt64 := 4607182418800017408
theorem ex_c20 : Ex (val64 C20) (2 ^ 20) 0 := ⟨4503599627370496, -32, by decide +kernel, by decide +kernel⟩
theorem ex_one : Ex (val64 ONE) 1 0 := ⟨4503599627370496, -52, by decide +kernel, by decide +kernel⟩
theorem ex_div20 {x : UInt64} {A : Nat} (h : Ex (val64 x) A 0) (hA : A < 2 ^ 53) : Ex (val64 (Jvm.FP.ddiv x C20)) A 20 := by
  have e : val64 (Jvm.FP.ddiv x C20) = quotient b64 (val64 x) (val64 C20) := val64_ddiv x C20
  have e2 : roundRatio b64 false A (2 ^ 20) (((0 : Nat) : Int) - (0 : Nat)) = roundRatio b64 false A 1 (-((20 : Nat) : Int)) := by
    refine roundRatio_congr (by decide) (by decide) ?_
    rw [show ((((0 : Nat) : Int) - (0 : Nat)) - -((20 : Nat) : Int)).toNat = 20 by decide, show (-((20 : Nat) : Int) - (((0 : Nat) : Int) - (0 : Nat))).toNat = 0 by decide]
    omega
  have e3 := ex_quot h ex_c20 (by decide)
  rw [e, e3, e2]
  exact rr_ex hA (by decide)
theorem ex_dsub {x z : UInt64} {i j k : Nat} (hx : Ex (val64 x) i k) (hz : Ex (val64 z) j k) (hij : j ≤ i) (hi : i < 2 ^ 53) (hk : k ≤ 100) : Ex (val64 (Jvm.FP.dsub x z)) (i - j) k := by
  have e : val64 (Jvm.FP.dsub x z) = round b64 (exactSum (val64 x) (negate (val64 z))) := val64_dsub x z
  rw [e, ex_diff hx hz hij]
  exact rr_ex (by omega) hk
theorem ex_dmul {x z : UInt64} {i j k l : Nat} (hx : Ex (val64 x) i k) (hz : Ex (val64 z) j l) (hi : i * j < 2 ^ 53) (hk : k + l ≤ 100) : Ex (val64 (Jvm.FP.dmul x z)) (i * j) (k + l) := by
  have e : val64 (Jvm.FP.dmul x z) = round b64 (exactProduct (val64 x) (val64 z)) := val64_dmul x z
  rw [e, ex_prod hx hz]
  exact rr_ex hi hk
/-- two quotients of equal worth are the same double -/
theorem div_same {x z x' z' : UInt64} {i k j l i' k' j' l' : Nat} (hx : Ex (val64 x) i k) (hz : Ex (val64 z) j l) (hj : 0 < j) (hx' : Ex (val64 x') i' k') (hz' : Ex (val64 z') j' l') (hj' : 0 < j')
    (h : roundRatio b64 false i j ((l : Int) - k) = roundRatio b64 false i' j' ((l' : Int) - k')) : Jvm.FP.ddiv x z = Jvm.FP.ddiv x' z' := by
  have e : quotient b64 (val64 x) (val64 z) = quotient b64 (val64 x') (val64 z') := by rw [ex_quot hx hz hj, ex_quot hx' hz' hj', h]
  exact congrArg (fun d => UInt64.ofNat (encode b64 d)) e
theorem rr_val {x z : UInt64} {i k j l : Nat} (hx : Ex (val64 x) i k) (hz : Ex (val64 z) j l) (hj : 0 < j) : val64 (Jvm.FP.ddiv x z) = roundRatio b64 false i j ((l : Int) - k) := by
  have e : val64 (Jvm.FP.ddiv x z) = quotient b64 (val64 x) (val64 z) := val64_ddiv x z
  rw [e, ex_quot hx hz hj]
theorem div_no {x z : UInt64} {i k j l : Nat} (hx : Ex (val64 x) i k) (hz : Ex (val64 z) j l) (hj : 0 < j) : Jvm.Free.Fl.NoNaN64 (Jvm.FP.ddiv x z) :=
  Jvm.Free.Fl.val64_no.mpr (by rw [rr_val hx hz hj]; exact roundRatio_ne_nan _ _ _ _ _)
/-- a quotient of at most one isn't above one: Math.min(1, it) is it -/
theorem min_one {r : UInt64} {n d : Nat} (hr : val64 r = roundRatio b64 false n d 0) (hd : 0 < d) (hnd : n ≤ d) : Jvm.Native.java_lang_Math.nans.pick64 false ONE r = r := by
  have h1 : Jvm.FP.Core.fits b64 (val64 ONE) := val64_fits ONE
  have hle : zmag b64 (val64 r) ≤ zmag b64 (val64 ONE) := by
    rw [hr]
    refine zmag_roundRatio_le good_b64 (e0 := -1074) hd h1 (ex_nan ex_one) (by decide) (by decide) ?_
    have e1 : zmag b64 (val64 ONE) = 2 ^ 1074 := by decide +kernel
    have e2 : (b64.qmin - -1074).toNat = 0 := by decide
    rw [e1, e2, Nat.pow_zero, Nat.mul_one]
    show n * 2 ^ ((0 : Int) - -1074).toNat ≤ _
    rw [show ((0 : Int) - -1074).toNat = 1074 by decide, Nat.mul_comm]
    exact Nat.mul_le_mul_left _ hnd
  have hs : sgn (val64 r) = false := by rw [hr]; exact sgn_roundRatio _ _ _ _ _
  have hs1 : sgn (val64 ONE) = false := by decide +kernel
  have ho : Jvm.FP.dcmp ONE r = some (compare (zval b64 (val64 ONE)) (zval b64 (val64 r))) := order_zval good_b64 h1 (val64_fits r) (ex_nan ex_one) (by show val64 r ≠ .nan; rw [hr]; exact roundRatio_ne_nan _ _ _ _ _)
  have hz : zval b64 (val64 r) ≤ zval b64 (val64 ONE) := by
    simp only [zval, hs, hs1, signed, Bool.false_eq_true, if_false]
    omega
  unfold Jvm.Native.java_lang_Math.nans.pick64
  rw [ho]
  cases hc : compare (zval b64 (val64 ONE)) (zval b64 (val64 r)) with
  | lt => exact absurd (Int.compare_eq_lt.mp hc) (by omega)
  | eq => rfl
  | gt => rfl
theorem dcmp_pos {x : UInt64} {i k : Nat} (hx : Ex (val64 x) i k) (hi : 0 < i) : ¬ (Jvm.Op.cmpValue (Jvm.FP.dcmp x 0) .l = 0) := by
  obtain ⟨c, q, e, h⟩ := hx
  have hc : 0 < c := Nat.pos_of_ne_zero fun z => by subst z; rw [Nat.zero_mul] at h; have := Nat.mul_pos hi (Nat.two_pow_pos (-(q + k)).toNat); omega
  have e0 : val64 0 = .fin false 0 (-1074) := by decide +kernel
  have ho : Jvm.FP.dcmp x 0 = order (val64 x) (val64 0) := rfl
  rw [ho, e, e0]
  show ¬ (Jvm.Op.cmpValue (some (compare (signed false (inUnits c q (min q (-1074)))) (signed false (inUnits 0 (-1074) (min q (-1074)))))) .l = 0)
  have h1 : 0 < inUnits c q (min q (-1074)) := Nat.mul_pos hc (Nat.two_pow_pos _)
  have h2 : inUnits 0 (-1074) (min q (-1074)) = 0 := Nat.zero_mul _
  have h3 : compare (signed false (inUnits c q (min q (-1074)))) (signed false (inUnits 0 (-1074) (min q (-1074)))) = .gt := by
    rw [h2]
    exact Int.compare_eq_gt.mpr (by simp only [signed, Bool.false_eq_true, if_false]; omega)
  rw [h3]
  decide
end Fp
end Jvm.Pilot.@@N@@
namespace Jvm.Pilot.@@N@@
open Jvm Jvm.ClassFile Sem Op Lib Jvm.Free Jvm.Stand Jvm.LawKit Jvm.RoadKit Bundle Jvm.Pilot.@@N@@.Jvm.D Ow
theorem d_jdk_30_method_1_0 : decode jdk_30_method_1_code 0 = .ok (.aload_n 0, 1) := by decide +kernel
theorem d_jdk_30_method_1_1 : decode jdk_30_method_1_code 1 = .ok (.invokespecial 1, 3) := by decide +kernel
theorem d_jdk_30_method_1_4 : decode jdk_30_method_1_code 4 = .ok (.return_, 1) := by decide +kernel
theorem d_prog_30_method_1_0 : decode prog_30_method_1_code 0 = .ok (.aload_n 0, 1) := by decide +kernel
theorem d_prog_30_method_1_1 : decode prog_30_method_1_code 1 = .ok (.invokespecial 1, 3) := by decide +kernel
theorem d_prog_30_method_1_4 : decode prog_30_method_1_code 4 = .ok (.aload_n 0, 1) := by decide +kernel
theorem d_prog_30_method_1_5 : decode prog_30_method_1_code 5 = .ok (.iload_n 1, 1) := by decide +kernel
theorem d_prog_30_method_1_6 : decode prog_30_method_1_code 6 = .ok (.putfield 7, 3) := by decide +kernel
theorem d_prog_30_method_1_9 : decode prog_30_method_1_code 9 = .ok (.aload_n 0, 1) := by decide +kernel
theorem d_prog_30_method_1_10 : decode prog_30_method_1_code 10 = .ok (.dload_n 2, 1) := by decide +kernel
theorem d_prog_30_method_1_11 : decode prog_30_method_1_code 11 = .ok (.putfield 13, 3) := by decide +kernel
theorem d_prog_30_method_1_14 : decode prog_30_method_1_code 14 = .ok (.return_, 1) := by decide +kernel
theorem d_prog_30_method_6_0 : decode prog_30_method_6_code 0 = .ok (.aload_n 0, 1) := by decide +kernel
theorem d_prog_30_method_6_1 : decode prog_30_method_6_code 1 = .ok (.getfield 7, 3) := by decide +kernel
theorem d_prog_30_method_6_4 : decode prog_30_method_6_code 4 = .ok (.ireturn, 1) := by decide +kernel
theorem d_prog_30_method_7_0 : decode prog_30_method_7_code 0 = .ok (.aload_n 0, 1) := by decide +kernel
theorem d_prog_30_method_7_1 : decode prog_30_method_7_code 1 = .ok (.getfield 13, 3) := by decide +kernel
theorem d_prog_30_method_7_4 : decode prog_30_method_7_code 4 = .ok (.dreturn, 1) := by decide +kernel
theorem d_prog_30_method_2_0 : decode prog_30_method_2_code 0 = .ok (.aload_n 0, 1) := by decide +kernel
theorem d_prog_30_method_2_1 : decode prog_30_method_2_code 1 = .ok (.getfield 13, 3) := by decide +kernel
theorem d_prog_30_method_2_4 : decode prog_30_method_2_code 4 = .ok (.dconst 0, 1) := by decide +kernel
theorem d_prog_30_method_2_5 : decode prog_30_method_2_code 5 = .ok (.dcmp .l, 1) := by decide +kernel
theorem d_prog_30_method_2_6 : decode prog_30_method_2_code 6 = .ok (.ifCond .ne 7, 3) := by decide +kernel
theorem d_prog_30_method_2_9 : decode prog_30_method_2_code 9 = .ok (.dconst 0, 1) := by decide +kernel
theorem d_prog_30_method_2_10 : decode prog_30_method_2_code 10 = .ok (.goto 18, 3) := by decide +kernel
theorem d_prog_30_method_2_13 : decode prog_30_method_2_code 13 = .ok (.aload_n 0, 1) := by decide +kernel
theorem d_prog_30_method_2_14 : decode prog_30_method_2_code 14 = .ok (.getfield 13, 3) := by decide +kernel
theorem d_prog_30_method_2_17 : decode prog_30_method_2_code 17 = .ok (.dconst 1, 1) := by decide +kernel
theorem d_prog_30_method_2_18 : decode prog_30_method_2_code 18 = .ok (.dload_n 1, 1) := by decide +kernel
theorem d_prog_30_method_2_19 : decode prog_30_method_2_code 19 = .ok (.dconst 1, 1) := by decide +kernel
theorem d_prog_30_method_2_20 : decode prog_30_method_2_code 20 = .ok (.aload_n 0, 1) := by decide +kernel
theorem d_prog_30_method_2_21 : decode prog_30_method_2_code 21 = .ok (.getfield 13, 3) := by decide +kernel
theorem d_prog_30_method_2_24 : decode prog_30_method_2_code 24 = .ok (.dsub, 1) := by decide +kernel
theorem d_prog_30_method_2_25 : decode prog_30_method_2_code 25 = .ok (.dmul, 1) := by decide +kernel
theorem d_prog_30_method_2_26 : decode prog_30_method_2_code 26 = .ok (.dsub, 1) := by decide +kernel
theorem d_prog_30_method_2_27 : decode prog_30_method_2_code 27 = .ok (.ddiv, 1) := by decide +kernel
theorem d_prog_30_method_2_28 : decode prog_30_method_2_code 28 = .ok (.dstore_n 3, 1) := by decide +kernel
theorem d_prog_30_method_2_29 : decode prog_30_method_2_code 29 = .ok (.new 8, 3) := by decide +kernel
theorem d_prog_30_method_2_32 : decode prog_30_method_2_code 32 = .ok (.dup, 1) := by decide +kernel
theorem d_prog_30_method_2_33 : decode prog_30_method_2_code 33 = .ok (.aload_n 0, 1) := by decide +kernel
theorem d_prog_30_method_2_34 : decode prog_30_method_2_code 34 = .ok (.getfield 7, 3) := by decide +kernel
theorem d_prog_30_method_2_37 : decode prog_30_method_2_code 37 = .ok (.dconst 1, 1) := by decide +kernel
theorem d_prog_30_method_2_38 : decode prog_30_method_2_code 38 = .ok (.dload_n 3, 1) := by decide +kernel
theorem d_prog_30_method_2_39 : decode prog_30_method_2_code 39 = .ok (.invokestatic 17, 3) := by decide +kernel
theorem d_prog_30_method_2_42 : decode prog_30_method_2_code 42 = .ok (.invokespecial 23, 3) := by decide +kernel
theorem d_prog_30_method_2_45 : decode prog_30_method_2_code 45 = .ok (.areturn, 1) := by decide +kernel
theorem pd_0 : parseMethodDescriptor "()V" = some ⟨[], none⟩ := by decide +kernel
theorem pd_1 : parseMethodDescriptor "(DD)D" = some ⟨[.double, .double], some .double⟩ := by decide +kernel
theorem pd_2 : parseMethodDescriptor "(ID)V" = some ⟨[.int, .double], none⟩ := by decide +kernel
theorem pd_3 : parseMethodDescriptor "(D)Lcom/example/contesta/contesta/rank/Hit;" = some ⟨[.double], some (.object "com/example/contesta/contesta/rank/Hit")⟩ := by decide +kernel
theorem pd_4 : parseMethodDescriptor "()I" = some ⟨[], some .int⟩ := by decide +kernel
theorem pd_5 : parseMethodDescriptor "()D" = some ⟨[], some .double⟩ := by decide +kernel
set_option maxRecDepth 65536 in
set_option maxHeartbeats 40000000 in
theorem rm_rec (l : Launch) (Z : State) (a0 : Array Value) (hw : ∀ d ∈ tables_1, d.before a0 Z = true) (hEL : EW Z a0 []) (n0 : Nat) (a : Addr) (h : Heap)   :
    Met l true Z [] n0 (⟨"java/lang/Record", "<init>", "()V"⟩ : MethodName) jdk_30_method_1_code 1 none ({ frames := 1, cells := 0, slots := 0, locals := 12 } : Room) [] #[(.ref a)] [] h (fun v h' => v = none ∧ h' = h) := by
  refine Met.of_body (a0 := a0) (L0 := #[.val (.ref a)]) (plainFor_of_name (by first | (simp [plainName, overriddenIn]; done) | decide +kernel)) (fun m => by first | rfl | (simp [entryFrame, mkF, argsToLocals, Value.category]; done)) hw hEL (by decide) ?_
  refine aloadN (pc' := 1) d_jdk_30_method_1_0 rfl rfl rfl ?_
  refine initObj (i := 14) (i2 := 15) (i3 := 16) (Wd := 0) (pc' := 4) d_jdk_30_method_1_1 rfl rfl rfl rfl (by decide) (Nat.le_of_ble_eq_true rfl) (by decide) rfl ?_
  exact retV d_jdk_30_method_1_4 rfl (by decide) (by decide) ⟨rfl, rfl⟩
set_option maxRecDepth 65536 in
set_option maxHeartbeats 40000000 in
theorem rm_init (l : Launch) (Z : State) (a0 : Array Value) (hw : ∀ d ∈ tables_1, d.before a0 Z = true) (hEL : EW Z a0 []) (n0 : Nat) (a : Addr) (n : Int32) (x : UInt64) (h : Heap) (Ea : Exa Z h a "com/example/contesta/contesta/rank/Hit") (Fn : Fld Z h a "com/example/contesta/contesta/rank/Hit" "sentence" "I" (.int (0 : Int32))) (Fs : Fld Z h a "com/example/contesta/contesta/rank/Hit" "score" "D" (.double 0))  :
    Met l true Z [] n0 (⟨"com/example/contesta/contesta/rank/Hit", "<init>", "(ID)V"⟩ : MethodName) prog_30_method_1_code 4 none ({ frames := 2, cells := 0, slots := 0, locals := 24 } : Room) [] #[(.ref a), (.int n), (.double x)] [a] h (fun v h' => v = none ∧ Keep h h' [a] ∧ Exa Z h' a "com/example/contesta/contesta/rank/Hit" ∧ Fld Z h' a "com/example/contesta/contesta/rank/Hit" "sentence" "I" (.int n) ∧ Fld Z h' a "com/example/contesta/contesta/rank/Hit" "score" "D" (.double x)) := by
  refine Met.of_body (a0 := a0) (L0 := #[.val (.ref a), .val (.int n), .val (.double x), .second]) (plainFor_of_name (by first | (simp [plainName, overriddenIn]; done) | decide +kernel)) (fun m => by first | rfl | (simp [entryFrame, mkF, argsToLocals, Value.category]; done)) hw hEL (by decide) ?_
  have K : Keep h h [a] := Keep.refl _ _
  refine aloadN (pc' := 1) d_prog_30_method_1_0 rfl rfl rfl ?_
  refine call (i := 13) (i2 := 12) (Wd := 0) (pc' := 4) (kInit (i := 9) (i2 := 10) (i4 := 13) (a := a) (argsL := []) (S' := []) (Wd := 0) d_prog_30_method_1_1 rfl rfl rfl rfl (by decide) rfl pd_0 rfl rfl (Nat.le_of_ble_eq_true rfl)) (rm_rec l Z a0 hw hEL n0 a _) rfl rfl (by simp) (by decide) (by decide) (by decide) (by decide) rfl fun v_ h1 P2 sz3 => ?_
  obtain ⟨rfl, e4⟩ := P2
  rw [e4]
  refine at' (ce' := 0) (sl' := 0) (pc' := 4) (L' := #[.val (.ref a), .val (.int n), .val (.double x), .second]) (S' := []) rfl rfl rfl rfl rfl ?_
  refine aloadN (pc' := 5) d_prog_30_method_1_4 rfl rfl rfl ?_
  refine iloadN (pc' := 6) d_prog_30_method_1_5 rfl rfl ?_
  refine putfield (i := 17) (i2 := 18) (i3 := 4) (pc' := 9) (v' := (.int n)) (ty := .int) d_prog_30_method_1_6 rfl (Or.inr ⟨rfl, rfl, rfl⟩) rfl Fn Ea (by decide) rfl rfl (by simp) rfl fun h5 W6 => ?_
  replace K := K.wr W6 (Or.inl (by simp))
  replace Ea := Ea.wr W6
  replace Fn := Fn.same W6
  replace Fs := Fs.other W6 (Or.inr (slot_ne (Or.inr (hw _ (List.mem_of_getElem? (i := 20) rfl))) (Or.inr (hw _ (List.mem_of_getElem? (i := 18) rfl))) (by decide) (t := .double) (t' := .int) (by decide) (by decide)))
  refine aloadN (pc' := 10) d_prog_30_method_1_9 rfl rfl rfl ?_
  refine dloadN (pc' := 11) d_prog_30_method_1_10 rfl rfl ?_
  refine putfield (i := 19) (i2 := 20) (i3 := 4) (pc' := 14) (v' := (.double x)) (ty := .double) d_prog_30_method_1_11 rfl (Or.inr ⟨rfl, rfl, rfl⟩) rfl Fs Ea (by decide) rfl rfl (by simp) rfl fun h7 W8 => ?_
  replace K := K.wr W8 (Or.inl (by simp))
  replace Ea := Ea.wr W8
  replace Fn := Fn.other W8 (Or.inr (slot_ne (Or.inr (hw _ (List.mem_of_getElem? (i := 18) rfl))) (Or.inr (hw _ (List.mem_of_getElem? (i := 20) rfl))) (by decide) (t := .int) (t' := .double) (by decide) (by decide)))
  replace Fs := Fs.same W8
  exact retV d_prog_30_method_1_14 rfl (by decide) (by decide) ⟨rfl, K, Ea, Fn, Fs⟩
set_option maxRecDepth 65536 in
set_option maxHeartbeats 40000000 in
theorem rm_sentence (l : Launch) (Z : State) (a0 : Array Value) (hw : ∀ d ∈ tables_1, d.before a0 Z = true) (hEL : EW Z a0 []) (n0 : Nat) (a : Addr) (n : Int32) (h : Heap) (Fn : Fld Z h a "com/example/contesta/contesta/rank/Hit" "sentence" "I" (.int n))  :
    Met l true Z [] n0 (⟨"com/example/contesta/contesta/rank/Hit", "sentence", "()I"⟩ : MethodName) prog_30_method_6_code 1 (some .int) ({ frames := 0, cells := 0, slots := 0, locals := 0 } : Room) [] #[(.ref a)] [] h (fun v h' => v = some (.int n) ∧ h' = h) := by
  refine Met.of_body (a0 := a0) (L0 := #[.val (.ref a)]) (plainFor_of_name (by first | (simp [plainName, overriddenIn]; done) | decide +kernel)) (fun m => by first | rfl | (simp [entryFrame, mkF, argsToLocals, Value.category]; done)) hw hEL (by decide) ?_
  refine aloadN (pc' := 1) d_prog_30_method_6_0 rfl rfl rfl ?_
  refine getfield (i := 17) (pc' := 4) d_prog_30_method_6_1 rfl Fn rfl ?_
  exact retI d_prog_30_method_6_4 rfl (Or.inl rfl) rfl (by decide) (by decide) ⟨rfl, rfl⟩
set_option maxRecDepth 65536 in
set_option maxHeartbeats 40000000 in
theorem rm_score (l : Launch) (Z : State) (a0 : Array Value) (hw : ∀ d ∈ tables_1, d.before a0 Z = true) (hEL : EW Z a0 []) (n0 : Nat) (a : Addr) (x : UInt64) (h : Heap) (Fs : Fld Z h a "com/example/contesta/contesta/rank/Hit" "score" "D" (.double x))  :
    Met l true Z [] n0 (⟨"com/example/contesta/contesta/rank/Hit", "score", "()D"⟩ : MethodName) prog_30_method_7_code 1 (some .double) ({ frames := 0, cells := 0, slots := 0, locals := 0 } : Room) [] #[(.ref a)] [] h (fun v h' => v = some (.double x) ∧ h' = h) := by
  refine Met.of_body (a0 := a0) (L0 := #[.val (.ref a)]) (plainFor_of_name (by first | (simp [plainName, overriddenIn]; done) | decide +kernel)) (fun m => by first | rfl | (simp [entryFrame, mkF, argsToLocals, Value.category]; done)) hw hEL (by decide) ?_
  refine aloadN (pc' := 1) d_prog_30_method_7_0 rfl rfl rfl ?_
  refine getfield (i := 19) (pc' := 4) d_prog_30_method_7_1 rfl Fs rfl ?_
  exact retD d_prog_30_method_7_4 rfl (by decide) (by decide) ⟨rfl, rfl⟩
theorem minD {l : Launch} {nw : Bool} {Z : State} {EL : List (String × Nat)} {a0 : Array Value} {n0 : Nat} {y : MethodName} {B : ByteArray} {ml : Nat} {ret : Option FieldType} {R : Room} {h0 : Heap} {Post : Option Value → Heap → Prop} {fs : List Addr} {h : Heap} {ce sl pc pc' : Nat} {L : Array Slot} {S S' : List Value} {Wd : Nat} {a b v : UInt64} (kd : Kd l Z a0 y B ml R h ce sl pc L S (⟨"java/lang/Math", "min", "(DD)D"⟩ : MethodName) 3 Wd #[.double a, .double b] S') (ha : Jvm.Free.Fl.NoNaN64 a) (hb : Jvm.Free.Fl.NoNaN64 b) (hv : Jvm.Native.java_lang_Math.nans.pick64 false a b = v) (hfr : 1 ≤ R.frames) (hlo : Wd + 15 ≤ R.locals) (hc : ce ≤ R.cells) (hs : sl ≤ R.slots) (hp : pc + 3 = pc')
    (K : Wq l nw Z EL a0 n0 y B ml ret R h0 Post fs h ce sl pc' L (.double v :: S')) : Wq l nw Z EL a0 n0 y B ml ret R h0 Post fs h ce sl pc L S := by
  subst hv
  refine callB (ws := []) (kc := 0) (ks := 0) (Qb := fun v h' Lo => v = some (.double (Jvm.Native.java_lang_Math.nans.pick64 false a b)) ∧ Lo = [] ∧ h' = h) kd (fun {p e below s args} hZ hw => Back.mono (Jvm.Free.Fl.Abs.minD_pays a b (show (Jvm.Cond.code Jvm.Free.Fl.Abs.minDN Jvm.Free.Fl.Abs.minDCode 4 (some .double)).before args s = true from mvT hZ (hw _ (List.mem_of_getElem? (i := 30) rfl))) hfr hlo) (fun A a' hp => ⟨hp.2.2.1, hp.2.2.2, hp.1, ha, hb⟩) (fun A a' v A' hp hq => by obtain ⟨rfl, rfl⟩ := hq; exact ⟨[], ⟨rfl, rfl, hp.2.1⟩, by simp, rfl, rfl⟩))
    (fun z q => nomatch q) (fun v h' Lo q => by obtain ⟨-, rfl, rfl⟩ := q; exact ⟨Fr.nil _, Keep.refl _ _⟩) hc hs hp (fun v h' Lo q => ?_)
  obtain ⟨rfl, rfl, rfl⟩ := q
  exact K
set_option maxRecDepth 65536 in
set_option maxHeartbeats 40000000 in
theorem rm_raised0 (l : Launch) (Z : State) (a0 : Array Value) (hw : ∀ d ∈ tables_1, d.before a0 Z = true) (hEL : EW Z a0 []) (n0 : Nat) (a : Addr) (n : Int32) (wt : UInt64) (h : Heap) (Ea : Exa Z h a "com/example/contesta/contesta/rank/Hit") (Fn : Fld Z h a "com/example/contesta/contesta/rank/Hit" "sentence" "I" (.int n)) (Fs : Fld Z h a "com/example/contesta/contesta/rank/Hit" "score" "D" (.double 0))  :
    Met l true Z [] n0 (⟨"com/example/contesta/contesta/rank/Hit", "raised", "(D)Lcom/example/contesta/contesta/rank/Hit;"⟩ : MethodName) prog_30_method_2_code 5 (some (.object "com/example/contesta/contesta/rank/Hit")) ({ frames := 3, cells := 1, slots := 2, locals := 48 } : Room) [] #[(.ref a), (.double wt)] [] h (fun v h' => ∃ r, v = some (.ref r) ∧ Ext h h' ∧ Exa Z h' r "com/example/contesta/contesta/rank/Hit" ∧ Fld Z h' r "com/example/contesta/contesta/rank/Hit" "sentence" "I" (.int n) ∧ Fld Z h' r "com/example/contesta/contesta/rank/Hit" "score" "D" (.double 0)) := by
  refine Met.of_body (a0 := a0) (L0 := #[.val (.ref a), .val (.double wt), .second, .unset, .unset]) (plainFor_of_name (by first | (simp [plainName, overriddenIn]; done) | decide +kernel)) (fun m => by first | rfl | (simp [entryFrame, mkF, argsToLocals, Value.category]; done)) hw hEL (by decide) ?_
  have K : Keep h h [] := Keep.refl _ _
  refine aloadN (pc' := 1) d_prog_30_method_2_0 rfl rfl rfl ?_
  refine getfield (i := 19) (pc' := 4) d_prog_30_method_2_1 rfl Fs rfl ?_
  refine dconst0 (pc' := 5) (v := (0 : UInt64)) d_prog_30_method_2_4 rfl rfl ?_
  refine dcmp (pc' := 6) d_prog_30_method_2_5 rfl ?_
  refine ifF (pc' := 9) d_prog_30_method_2_6 (by decide +kernel : (cmpValue (FP.dcmp 0 (0 : UInt64)) .l) = (0 : Int32)) rfl ?_
  refine dconst0 (pc' := 10) (v := (0 : UInt64)) d_prog_30_method_2_9 rfl rfl ?_
  refine goto (pc' := 28) d_prog_30_method_2_10 (by decide) rfl ?_
  refine dstoreN (pc' := 29) (L' := #[.val (.ref a), .val (.double wt), .second, .val (.double (0 : UInt64)), .second]) d_prog_30_method_2_28 rfl rfl ?_
  refine new (i := 26) (i2 := 4) (i3 := 5) (pc' := 32) d_prog_30_method_2_29 rfl rfl rfl (by decide) (by decide) rfl fun h9 a10 g11 E12 A13 D14 => ?_
  have sz_a10 : h.size ≤ a10 := by rw [g11]; exact K.1
  have ne_a_a10 : a ≠ a10 := Nat.ne_of_lt (by rw [g11]; exact Ea.lt)
  replace K := K.ext E12
  replace Ea := Ea.ext E12
  replace Fn := Fn.ext E12
  replace Fs := Fs.ext E12
  have F_sentence_a10 : Fld Z h9 a10 "com/example/contesta/contesta/rank/Hit" "sentence" "I" (.int (0 : Int32)) := D14 (Or.inr (hw _ (List.mem_of_getElem? (i := 18) rfl))) (ty := .int) (by decide)
  have F_score_a10 : Fld Z h9 a10 "com/example/contesta/contesta/rank/Hit" "score" "D" (.double 0) := D14 (Or.inr (hw _ (List.mem_of_getElem? (i := 20) rfl))) (ty := .double) (by decide)
  refine dup (pc' := 33) d_prog_30_method_2_32 rfl rfl ?_
  refine aloadN (pc' := 34) d_prog_30_method_2_33 rfl rfl rfl ?_
  refine getfield (i := 17) (pc' := 37) d_prog_30_method_2_34 rfl Fn rfl ?_
  refine dconst1 (pc' := 38) (v := (4607182418800017408 : UInt64)) d_prog_30_method_2_37 rfl rfl ?_
  refine dloadN (pc' := 39) d_prog_30_method_2_38 rfl rfl ?_
  refine minD (Wd := 3) (a := Fp.ONE) (b := (0 : UInt64)) (v := (0 : UInt64)) (pc' := 42) (kStatic (i := 27) (i2 := 28) (i3 := 29) (i4 := 30) (argsL := [(.double (4607182418800017408 : UInt64)), (.double (0 : UInt64))]) (S' := [(.int n), (.ref a10), (.ref a10)]) (Wd := 3) d_prog_30_method_2_39 rfl rfl rfl rfl (by decide) rfl pd_1 rfl rfl (Nat.le_of_ble_eq_true rfl)) (Fp.no Fp.ex_one) (by decide) (by decide +kernel) (by decide) (by decide) (by decide) (by decide) rfl ?_
  refine at' (ce' := 1) (sl' := 2) (pc' := 42) (L' := #[.val (.ref a), .val (.double wt), .second, .val (.double (0 : UInt64)), .second]) (S' := [(.double (0 : UInt64)), (.int n), (.ref a10), (.ref a10)]) rfl rfl rfl rfl rfl ?_
  refine call (i := 8) (i2 := 5) (Wd := 1) (pc' := 45) (kInit (i := 31) (i2 := 7) (i4 := 8) (a := a10) (argsL := [(.int n), (.double (0 : UInt64))]) (S' := [(.ref a10)]) (Wd := 1) d_prog_30_method_2_42 rfl rfl rfl rfl (by decide) rfl pd_2 rfl rfl (Nat.le_of_ble_eq_true rfl)) (rm_init l Z a0 hw hEL n0 a10 n (0 : UInt64) _ A13 F_sentence_a10 F_score_a10) rfl rfl (by simp) (by decide) (by decide) (by decide) (by decide) rfl fun v_ h15 P16 sz17 => ?_
  obtain ⟨rfl, K2, E2, F2, F3⟩ := P16
  replace K := K.trans K2 (allS (Or.inr sz_a10) all0)
  replace Ea := Ea.keep K2
  replace Fn := Fn.keep K2 (ninS ne_a_a10 nin0)
  replace Fs := Fs.keep K2 (ninS ne_a_a10 nin0)
  replace A13 := A13.keep K2
  refine at' (ce' := 1) (sl' := 2) (pc' := 45) (L' := #[.val (.ref a), .val (.double wt), .second, .val (.double (0 : UInt64)), .second]) (S' := [(.ref a10)]) rfl rfl rfl rfl rfl ?_
  exact retA d_prog_30_method_2_45 rfl rfl rfl (by decide) (by decide) ⟨a10, rfl, ⟨K.1, fun q c r => K.2.1 q c r nin0⟩, E2, F2, F3⟩
theorem own_nd {A b : Nat} (hA : A ≤ 2 ^ 20) (hb : b ≤ 2 ^ 20) : A * 2 ^ 20 ≤ 2 ^ 40 - b * (2 ^ 20 - A) := by
  have h1 : b * (2 ^ 20 - A) ≤ 2 ^ 20 * (2 ^ 20 - A) := Nat.mul_le_mul_right _ hb
  have h2 : 2 ^ 20 * (2 ^ 20 - A) = 2 ^ 40 - A * 2 ^ 20 := by rw [Nat.mul_sub]; omega
  omega
theorem own_rem (x : Int32) : ∃ A : Nat, ((x &&& 2147483647) % 1048577).toInt = A ∧ A ≤ 2 ^ 20 := by
  have h := c_and x 2147483647 (by decide)
  have q := (c_irem (x &&& 2147483647) 1048577 1048577 rfl).1 h.1
  refine ⟨((x &&& 2147483647) % 1048577).toInt.toNat, by omega, by omega⟩
theorem own_n {a : Int32} {A : Nat} (h : a.toInt = A) (hA : A ≤ 2 ^ 20) : (a.toInt64 <<< ((20 : Int32) &&& 0x3f).toInt64).toInt = ((A * 2 ^ 20 : Nat) : Int) := by
  have q := c_lshl a.toInt64 20 20 (by decide)
  rw [Int32.toInt_toInt64, h] at q
  have r := rng64 (a.toInt64 <<< ((20 : Int32) &&& 0x3f).toInt64)
  omega
theorem own_d1 {a : Int32} {A : Nat} (h : a.toInt = A) (hA : A ≤ 2 ^ 20) : ((1048576 : Int64) - a.toInt64).toInt = ((2 ^ 20 - A : Nat) : Int) := by
  have e1 : (1048576 : Int64).toInt = 1048576 := rfl
  have q1 := c_lsub (1048576 : Int64) a.toInt64
  rw [Int32.toInt_toInt64, h, e1] at q1
  have r1 := rng64 ((1048576 : Int64) - a.toInt64)
  omega
theorem own_d2 {x y : Int64} {P Q : Nat} (h : x.toInt = P) (h2 : y.toInt = Q) (hm : P * Q ≤ 1099511627776) : ((1099511627776 : Int64) - x * y).toInt = ((1099511627776 - P * Q : Nat) : Int) := by
  have e2 : (1099511627776 : Int64).toInt = 1099511627776 := rfl
  have q2 := c_lmul x y
  rw [h, h2, ← Int.natCast_mul] at q2
  have r2 := rng64 (x * y)
  have q3 := c_lsub (1099511627776 : Int64) (x * y)
  have r3 := rng64 ((1099511627776 : Int64) - x * y)
  rw [e2] at q3
  generalize P * Q = M at hm q2
  generalize (x * y).toInt = X at q2 r2 q3
  generalize ((1099511627776 : Int64) - x * y).toInt = W at q3 r3
  omega
theorem own_d {a b : Int32} {A b' : Nat} (h : a.toInt = A) (hA : A ≤ 2 ^ 20) (hb : b.toInt = b') (hb' : b' ≤ 2 ^ 20) : ((1099511627776 : Int64) - (b.toInt64 * ((1048576 : Int64) - a.toInt64))).toInt = ((2 ^ 40 - b' * (2 ^ 20 - A) : Nat) : Int) := by
  have hm : b' * (2 ^ 20 - A) ≤ 2 ^ 20 * 2 ^ 20 := Nat.mul_le_mul hb' (Nat.sub_le _ _)
  exact own_d2 (by rw [Int32.toInt_toInt64, hb]) (own_d1 h hA) hm
set_option maxRecDepth 65536 in
set_option maxHeartbeats 40000000 in
theorem rm_raised (l : Launch) (Z : State) (a0 : Array Value) (hw : ∀ d ∈ tables_1, d.before a0 Z = true) (hEL : EW Z a0 []) (n0 : Nat) (a : Addr) (n : Int32) (sc wt e : UInt64) (A b : Nat) (h : Heap) (Ea : Exa Z h a "com/example/contesta/contesta/rank/Hit") (Fn : Fld Z h a "com/example/contesta/contesta/rank/Hit" "sentence" "I" (.int n)) (Fs : Fld Z h a "com/example/contesta/contesta/rank/Hit" "score" "D" (.double sc)) (hs : Fp.Ex (Jvm.FP.Core.val64 sc) A 20) (hwt : Fp.Ex (Jvm.FP.Core.val64 wt) b 20) (hA0 : 0 < A) (hA : A ≤ 2 ^ 20) (hb : b ≤ 2 ^ 20) (he : Jvm.FP.Core.val64 e = Jvm.FP.Core.roundRatio Jvm.FP.Core.b64 false (A * 2 ^ 20) (2 ^ 40 - b * (2 ^ 20 - A)) 0) (he' : ∀ x z : UInt64, Fp.Ex (Jvm.FP.Core.val64 x) A 20 → Fp.Ex (Jvm.FP.Core.val64 z) (2 ^ 40 - b * (2 ^ 20 - A)) 40 → FP.ddiv x z = e) :
    Met l true Z [] n0 (⟨"com/example/contesta/contesta/rank/Hit", "raised", "(D)Lcom/example/contesta/contesta/rank/Hit;"⟩ : MethodName) prog_30_method_2_code 5 (some (.object "com/example/contesta/contesta/rank/Hit")) ({ frames := 3, cells := 1, slots := 2, locals := 48 } : Room) [] #[(.ref a), (.double wt)] [] h (fun v h' => ∃ r, v = some (.ref r) ∧ Ext h h' ∧ Exa Z h' r "com/example/contesta/contesta/rank/Hit" ∧ Fld Z h' r "com/example/contesta/contesta/rank/Hit" "sentence" "I" (.int n) ∧ Fld Z h' r "com/example/contesta/contesta/rank/Hit" "score" "D" (.double e)) := by
  refine Met.of_body (a0 := a0) (L0 := #[.val (.ref a), .val (.double wt), .second, .unset, .unset]) (plainFor_of_name (by first | (simp [plainName, overriddenIn]; done) | decide +kernel)) (fun m => by first | rfl | (simp [entryFrame, mkF, argsToLocals, Value.category]; done)) hw hEL (by decide) ?_
  have K : Keep h h [] := Keep.refl _ _
  have hm : b * (2 ^ 20 - A) ≤ 2 ^ 20 * (2 ^ 20 - 1) := Nat.mul_le_mul hb (by omega)
  have e1 := Fp.ex_dsub (Fp.ex_scale 20 Fp.ex_one) hs (by omega) (by decide) (by decide)
  rw [show 1 * 2 ^ 20 = 2 ^ 20 from rfl] at e1
  have e2 := Fp.ex_dmul hwt e1 (by omega) (by decide)
  have e3 := Fp.ex_dsub (Fp.ex_scale 40 Fp.ex_one) e2 (by omega) (by decide) (by decide)
  rw [show 1 * 2 ^ 40 = 2 ^ 40 from rfl] at e3
  refine aloadN (pc' := 1) d_prog_30_method_2_0 rfl rfl rfl ?_
  refine getfield (i := 19) (pc' := 4) d_prog_30_method_2_1 rfl Fs rfl ?_
  refine dconst0 (pc' := 5) (v := (0 : UInt64)) d_prog_30_method_2_4 rfl rfl ?_
  refine dcmp (pc' := 6) d_prog_30_method_2_5 rfl ?_
  refine ifT (pc' := 13) d_prog_30_method_2_6 (Fp.dcmp_pos hs hA0 : ¬ ((cmpValue (FP.dcmp sc (0 : UInt64)) .l) = (0 : Int32))) (by decide) rfl ?_
  refine aloadN (pc' := 14) d_prog_30_method_2_13 rfl rfl rfl ?_
  refine getfield (i := 19) (pc' := 17) d_prog_30_method_2_14 rfl Fs rfl ?_
  refine dconst1 (pc' := 18) (v := (4607182418800017408 : UInt64)) d_prog_30_method_2_17 rfl rfl ?_
  refine dloadN (pc' := 19) d_prog_30_method_2_18 rfl rfl ?_
  refine dconst1 (pc' := 20) (v := (4607182418800017408 : UInt64)) d_prog_30_method_2_19 rfl rfl ?_
  refine aloadN (pc' := 21) d_prog_30_method_2_20 rfl rfl rfl ?_
  refine getfield (i := 19) (pc' := 24) d_prog_30_method_2_21 rfl Fs rfl ?_
  refine dsub (pc' := 25) (v := (FP.dsub (4607182418800017408 : UInt64) sc)) d_prog_30_method_2_24 (Fp.no e1) rfl rfl ?_
  refine dmul (pc' := 26) (v := (FP.dmul wt (FP.dsub (4607182418800017408 : UInt64) sc))) d_prog_30_method_2_25 (Fp.no e2) rfl rfl ?_
  refine dsub (pc' := 27) (v := (FP.dsub (4607182418800017408 : UInt64) (FP.dmul wt (FP.dsub (4607182418800017408 : UInt64) sc)))) d_prog_30_method_2_26 (Fp.no e3) rfl rfl ?_
  refine ddiv (pc' := 28) (v := e) d_prog_30_method_2_27 (Fp.div_no hs e3 (by omega)) (he' _ _ hs e3) rfl ?_
  refine dstoreN (pc' := 29) (L' := #[.val (.ref a), .val (.double wt), .second, .val (.double e), .second]) d_prog_30_method_2_28 rfl rfl ?_
  refine new (i := 26) (i2 := 4) (i3 := 5) (pc' := 32) d_prog_30_method_2_29 rfl rfl rfl (by decide) (by decide) rfl fun h18 a19 g20 E21 A22 D23 => ?_
  have sz_a19 : h.size ≤ a19 := by rw [g20]; exact K.1
  have ne_a_a19 : a ≠ a19 := Nat.ne_of_lt (by rw [g20]; exact Ea.lt)
  replace K := K.ext E21
  replace Ea := Ea.ext E21
  replace Fn := Fn.ext E21
  replace Fs := Fs.ext E21
  have F_sentence_a19 : Fld Z h18 a19 "com/example/contesta/contesta/rank/Hit" "sentence" "I" (.int (0 : Int32)) := D23 (Or.inr (hw _ (List.mem_of_getElem? (i := 18) rfl))) (ty := .int) (by decide)
  have F_score_a19 : Fld Z h18 a19 "com/example/contesta/contesta/rank/Hit" "score" "D" (.double 0) := D23 (Or.inr (hw _ (List.mem_of_getElem? (i := 20) rfl))) (ty := .double) (by decide)
  refine dup (pc' := 33) d_prog_30_method_2_32 rfl rfl ?_
  refine aloadN (pc' := 34) d_prog_30_method_2_33 rfl rfl rfl ?_
  refine getfield (i := 17) (pc' := 37) d_prog_30_method_2_34 rfl Fn rfl ?_
  refine dconst1 (pc' := 38) (v := (4607182418800017408 : UInt64)) d_prog_30_method_2_37 rfl rfl ?_
  refine dloadN (pc' := 39) d_prog_30_method_2_38 rfl rfl ?_
  refine minD (Wd := 3) (a := Fp.ONE) (b := e) (v := e) (pc' := 42) (kStatic (i := 27) (i2 := 28) (i3 := 29) (i4 := 30) (argsL := [(.double (4607182418800017408 : UInt64)), (.double e)]) (S' := [(.int n), (.ref a19), (.ref a19)]) (Wd := 3) d_prog_30_method_2_39 rfl rfl rfl rfl (by decide) rfl pd_1 rfl rfl (Nat.le_of_ble_eq_true rfl)) (Fp.no Fp.ex_one) (Jvm.Free.Fl.val64_no.mpr (by rw [he]; exact Jvm.FP.Core.roundRatio_ne_nan _ _ _ _ _)) (Fp.min_one he (by omega) (own_nd hA hb)) (by decide) (by decide) (by decide) (by decide) rfl ?_
  refine at' (ce' := 1) (sl' := 2) (pc' := 42) (L' := #[.val (.ref a), .val (.double wt), .second, .val (.double e), .second]) (S' := [(.double e), (.int n), (.ref a19), (.ref a19)]) rfl rfl rfl rfl rfl ?_
  refine call (i := 8) (i2 := 5) (Wd := 1) (pc' := 45) (kInit (i := 31) (i2 := 7) (i4 := 8) (a := a19) (argsL := [(.int n), (.double e)]) (S' := [(.ref a19)]) (Wd := 1) d_prog_30_method_2_42 rfl rfl rfl rfl (by decide) rfl pd_2 rfl rfl (Nat.le_of_ble_eq_true rfl)) (rm_init l Z a0 hw hEL n0 a19 n e _ A22 F_sentence_a19 F_score_a19) rfl rfl (by simp) (by decide) (by decide) (by decide) (by decide) rfl fun v_ h24 P25 sz26 => ?_
  obtain ⟨rfl, K2, E2, F2, F3⟩ := P25
  replace K := K.trans K2 (allS (Or.inr sz_a19) all0)
  replace Ea := Ea.keep K2
  replace Fn := Fn.keep K2 (ninS ne_a_a19 nin0)
  replace Fs := Fs.keep K2 (ninS ne_a_a19 nin0)
  replace A22 := A22.keep K2
  refine at' (ce' := 1) (sl' := 2) (pc' := 45) (L' := #[.val (.ref a), .val (.double wt), .second, .val (.double e), .second]) (S' := [(.ref a19)]) rfl rfl rfl rfl rfl ?_
  exact retA d_prog_30_method_2_45 rfl rfl rfl (by decide) (by decide) ⟨a19, rfl, ⟨K.1, fun q c r => K.2.1 q c r nin0⟩, E2, F2, F3⟩
theorem own_ratio (A d : Nat) (hd : 0 < d) : Jvm.FP.Core.roundRatio Jvm.FP.Core.b64 false A d (((40 : Nat) : Int) - (20 : Nat)) = Jvm.FP.Core.roundRatio Jvm.FP.Core.b64 false (A * 2 ^ 20) d (((0 : Nat) : Int) - (0 : Nat)) := by
  refine Jvm.FP.Core.roundRatio_congr hd hd ?_
  rw [show ((((40 : Nat) : Int) - (20 : Nat)) - (((0 : Nat) : Int) - (0 : Nat))).toNat = 20 by decide, show ((((0 : Nat) : Int) - (0 : Nat)) - (((40 : Nat) : Int) - (20 : Nat))).toNat = 0 by decide, Nat.pow_zero, Nat.mul_one]
  ac_rfl
set_option maxRecDepth 65536 in
set_option maxHeartbeats 40000000 in
theorem law_met (l : Launch) (Z : State) (a0 : Array Value) (hw : ∀ d ∈ tables_1, d.before a0 Z = true) (hEL : EW Z a0 []) (n0 : Nat) (i0 i1 i2 : Int32) (h : Heap)   :
    Met l true Z [] n0 x code maxLocals ret room_1 tables_1 #[(.int i0), (.int i1), (.int i2)] [] h (fun v h' => v = some (.int 1)) := by
  refine Met.of_body (a0 := a0) (L0 := #[.val (.int i0), .val (.int i1), .val (.int i2), .unset, .unset, .unset, .unset, .unset, .unset, .unset, .unset, .unset, .unset, .unset, .unset, .unset, .unset]) (plainFor_of_name (by first | (simp [plainName, overriddenIn]; done) | decide +kernel)) (fun m => by first | rfl | (simp [entryFrame, mkF, argsToLocals, Value.category, maxLocals]; done)) hw hEL (by decide) ?_
  obtain ⟨A, hA, hA2⟩ := own_rem i1
  obtain ⟨b, hb, hb2⟩ := own_rem i2
  obtain ⟨ia, eia⟩ : ∃ z, z = ((i1 &&& (2147483647 : Int32)) % (1048577 : Int32)) := ⟨_, rfl⟩
  obtain ⟨ib, eib⟩ : ∃ z, z = ((i2 &&& (2147483647 : Int32)) % (1048577 : Int32)) := ⟨_, rfl⟩
  rw [← eia] at hA
  rw [← eib] at hb
  have xa := Fp.ex_i2d hA (by omega)
  have xb := Fp.ex_i2d hb (by omega)
  have sa := Fp.ex_div20 xa (by omega)
  have sb := Fp.ex_div20 xb (by omega)
  refine iloadN (pc' := 1) at_0 rfl rfl ?_
  refine ldcInt (i := 0) (v := (2147483647 : Int32)) (pc' := 3) at_1 rfl rfl ?_
  refine iand (pc' := 4) at_3 rfl ?_
  refine ldcInt (i := 1) (v := (1048577 : Int32)) (pc' := 6) at_4 rfl rfl ?_
  refine irem (pc' := 7) at_6 (by decide) rfl ?_
  rw [← eia]
  refine istoreN (pc' := 8) (L' := #[.val (.int i0), .val (.int i1), .val (.int i2), .val (.int ia), .unset, .unset, .unset, .unset, .unset, .unset, .unset, .unset, .unset, .unset, .unset, .unset, .unset]) at_7 rfl rfl ?_
  refine iloadN (pc' := 9) at_8 rfl rfl ?_
  refine ldcInt (i := 0) (v := (2147483647 : Int32)) (pc' := 11) at_9 rfl rfl ?_
  refine iand (pc' := 12) at_11 rfl ?_
  refine ldcInt (i := 1) (v := (1048577 : Int32)) (pc' := 14) at_12 rfl rfl ?_
  refine irem (pc' := 15) at_14 (by decide) rfl ?_
  rw [← eib]
  refine istore (pc' := 17) (L' := #[.val (.int i0), .val (.int i1), .val (.int i2), .val (.int ia), .val (.int ib), .unset, .unset, .unset, .unset, .unset, .unset, .unset, .unset, .unset, .unset, .unset, .unset]) at_15 rfl rfl ?_
  refine iloadN (pc' := 18) at_17 rfl rfl ?_
  refine i2d (pc' := 19) at_18 rfl ?_
  refine ldc2Double (i := 2) (v := (4697254411347427328 : UInt64)) (pc' := 22) at_19 rfl rfl ?_
  refine ddiv (pc' := 23) (v := (FP.ddiv (FP.i2d ia) (4697254411347427328 : UInt64))) at_22 (Fp.no sa) rfl rfl ?_
  refine dstore (pc' := 25) (L' := #[.val (.int i0), .val (.int i1), .val (.int i2), .val (.int ia), .val (.int ib), .val (.double (FP.ddiv (FP.i2d ia) (4697254411347427328 : UInt64))), .second, .unset, .unset, .unset, .unset, .unset, .unset, .unset, .unset, .unset, .unset]) at_23 rfl rfl ?_
  refine iload (pc' := 27) at_25 rfl rfl ?_
  refine i2d (pc' := 28) at_27 rfl ?_
  refine ldc2Double (i := 2) (v := (4697254411347427328 : UInt64)) (pc' := 31) at_28 rfl rfl ?_
  refine ddiv (pc' := 32) (v := (FP.ddiv (FP.i2d ib) (4697254411347427328 : UInt64))) at_31 (Fp.no sb) rfl rfl ?_
  refine dstore (pc' := 34) (L' := #[.val (.int i0), .val (.int i1), .val (.int i2), .val (.int ia), .val (.int ib), .val (.double (FP.ddiv (FP.i2d ia) (4697254411347427328 : UInt64))), .second, .val (.double (FP.ddiv (FP.i2d ib) (4697254411347427328 : UInt64))), .second, .unset, .unset, .unset, .unset, .unset, .unset, .unset, .unset]) at_32 rfl rfl ?_
  refine new (i := 3) (i2 := 4) (i3 := 5) (pc' := 37) at_34 rfl rfl rfl (by decide) (by decide) rfl fun h27 a28 g29 E30 A31 D32 => ?_
  have F_sentence_a28 : Fld Z h27 a28 "com/example/contesta/contesta/rank/Hit" "sentence" "I" (.int (0 : Int32)) := D32 (Or.inr (hw _ (List.mem_of_getElem? (i := 18) rfl))) (ty := .int) (by decide)
  have F_score_a28 : Fld Z h27 a28 "com/example/contesta/contesta/rank/Hit" "score" "D" (.double 0) := D32 (Or.inr (hw _ (List.mem_of_getElem? (i := 20) rfl))) (ty := .double) (by decide)
  refine dup (pc' := 38) at_37 rfl rfl ?_
  refine iloadN (pc' := 39) at_38 rfl rfl ?_
  refine dload (pc' := 41) at_39 rfl rfl ?_
  refine call (i := 8) (i2 := 5) (Wd := 1) (pc' := 44) (kInit (i := 6) (i2 := 7) (i4 := 8) (a := a28) (argsL := [(.int i0), (.double (FP.ddiv (FP.i2d ia) (4697254411347427328 : UInt64)))]) (S' := [(.ref a28)]) (Wd := 1) at_41 rfl rfl rfl rfl (by decide) rfl pd_2 rfl rfl (Nat.le_of_ble_eq_true rfl)) (rm_init l Z a0 hw hEL n0 a28 i0 (FP.ddiv (FP.i2d ia) (4697254411347427328 : UInt64)) _ A31 F_sentence_a28 F_score_a28) rfl rfl (by simp) (by decide) (by decide) (by decide) (by decide) rfl fun v_ h33 P34 sz35 => ?_
  obtain ⟨rfl, K1, E1, Fn1, Fs1⟩ := P34
  replace A31 := A31.keep K1
  refine at' (ce' := 1) (sl' := 2) (pc' := 44) (L' := #[.val (.int i0), .val (.int i1), .val (.int i2), .val (.int ia), .val (.int ib), .val (.double (FP.ddiv (FP.i2d ia) (4697254411347427328 : UInt64))), .second, .val (.double (FP.ddiv (FP.i2d ib) (4697254411347427328 : UInt64))), .second, .unset, .unset, .unset, .unset, .unset, .unset, .unset, .unset]) (S' := [(.ref a28)]) rfl rfl rfl rfl rfl ?_
  refine astore (pc' := 46) (L' := #[.val (.int i0), .val (.int i1), .val (.int i2), .val (.int ia), .val (.int ib), .val (.double (FP.ddiv (FP.i2d ia) (4697254411347427328 : UInt64))), .second, .val (.double (FP.ddiv (FP.i2d ib) (4697254411347427328 : UInt64))), .second, .val (.ref a28), .unset, .unset, .unset, .unset, .unset, .unset, .unset]) at_44 rfl rfl rfl ?_
  refine aload (pc' := 48) at_46 rfl rfl rfl ?_
  refine dload (pc' := 50) at_48 rfl rfl ?_
  by_cases hz : ia = 0
  · skip
    have hs0 : (FP.ddiv (FP.i2d ia) (4697254411347427328 : UInt64)) = 0 := by rw [hz]; decide +kernel
    rw [hs0] at Fs1
    refine call (i := 25) (i2 := 5) (Wd := 0) (pc' := 53) (kVirt (i := 21) (i2 := 22) (i3 := 24) (i4 := 23) (C := "com/example/contesta/contesta/rank/Hit") (a := a28) (argsL := [(.double (FP.ddiv (FP.i2d ib) (4697254411347427328 : UInt64)))]) (S' := []) (Wd := 0) at_50 rfl rfl rfl rfl E1 (by decide) rfl pd_3 rfl rfl (Nat.le_of_ble_eq_true rfl)) (rm_raised0 l Z a0 hw hEL n0 a28 i0 (FP.ddiv (FP.i2d ib) (4697254411347427328 : UInt64)) _ E1 Fn1 Fs1) rfl rfl (by simp) (by decide) (by decide) (by decide) (by decide) rfl fun v_ h36 P37 sz38 => ?_
    obtain ⟨r, rfl, X3, E3, Fn3, Fs3⟩ := P37
    refine at' (ce' := 2) (sl' := 4) (pc' := 53) (L' := #[.val (.int i0), .val (.int i1), .val (.int i2), .val (.int ia), .val (.int ib), .val (.double (FP.ddiv (FP.i2d ia) (4697254411347427328 : UInt64))), .second, .val (.double (FP.ddiv (FP.i2d ib) (4697254411347427328 : UInt64))), .second, .val (.ref a28), .unset, .unset, .unset, .unset, .unset, .unset, .unset]) (S' := [(.ref r)]) rfl rfl rfl rfl rfl ?_
    refine astore (pc' := 55) (L' := #[.val (.int i0), .val (.int i1), .val (.int i2), .val (.int ia), .val (.int ib), .val (.double (FP.ddiv (FP.i2d ia) (4697254411347427328 : UInt64))), .second, .val (.double (FP.ddiv (FP.i2d ib) (4697254411347427328 : UInt64))), .second, .val (.ref a28), .val (.ref r), .unset, .unset, .unset, .unset, .unset, .unset]) at_53 rfl rfl rfl ?_
    refine iloadN (pc' := 56) at_55 rfl rfl ?_
    refine i2l (pc' := 57) at_56 rfl ?_
    refine bipush (pc' := 59) (v := (20 : Int32)) at_57 rfl rfl ?_
    refine lshl (pc' := 60) at_59 rfl ?_
    refine lstore (pc' := 62) (L' := #[.val (.int i0), .val (.int i1), .val (.int i2), .val (.int ia), .val (.int ib), .val (.double (FP.ddiv (FP.i2d ia) (4697254411347427328 : UInt64))), .second, .val (.double (FP.ddiv (FP.i2d ib) (4697254411347427328 : UInt64))), .second, .val (.ref a28), .val (.ref r), .val (.long ((ia.toInt64) <<< ((20 : Int32) &&& 0x3f).toInt64)), .second, .unset, .unset, .unset, .unset]) at_60 rfl rfl ?_
    refine ldc2Long (i := 32) (v := (1099511627776 : Int64)) (pc' := 65) at_62 rfl rfl ?_
    refine iload (pc' := 67) at_65 rfl rfl ?_
    refine i2l (pc' := 68) at_67 rfl ?_
    refine ldc2Long (i := 33) (v := (1048576 : Int64)) (pc' := 71) at_68 rfl rfl ?_
    refine iloadN (pc' := 72) at_71 rfl rfl ?_
    refine i2l (pc' := 73) at_72 rfl ?_
    refine lsub (pc' := 74) at_73 rfl ?_
    refine lmul (pc' := 75) at_74 rfl ?_
    refine lsub (pc' := 76) at_75 rfl ?_
    refine lstore (pc' := 78) (L' := #[.val (.int i0), .val (.int i1), .val (.int i2), .val (.int ia), .val (.int ib), .val (.double (FP.ddiv (FP.i2d ia) (4697254411347427328 : UInt64))), .second, .val (.double (FP.ddiv (FP.i2d ib) (4697254411347427328 : UInt64))), .second, .val (.ref a28), .val (.ref r), .val (.long ((ia.toInt64) <<< ((20 : Int32) &&& 0x3f).toInt64)), .second, .val (.long ((1099511627776 : Int64) - ((ib.toInt64) * ((1048576 : Int64) - (ia.toInt64))))), .second, .unset, .unset]) at_76 rfl rfl ?_
    refine iloadN (pc' := 79) at_78 rfl rfl ?_
    refine ifF (pc' := 82) at_79 (hz : ia = (0 : Int32)) rfl ?_
    refine dconst0 (pc' := 83) (v := (0 : UInt64)) at_82 rfl rfl ?_
    refine goto (pc' := 93) at_83 (by decide) rfl ?_
    refine dstore (pc' := 95) (L' := #[.val (.int i0), .val (.int i1), .val (.int i2), .val (.int ia), .val (.int ib), .val (.double (FP.ddiv (FP.i2d ia) (4697254411347427328 : UInt64))), .second, .val (.double (FP.ddiv (FP.i2d ib) (4697254411347427328 : UInt64))), .second, .val (.ref a28), .val (.ref r), .val (.long ((ia.toInt64) <<< ((20 : Int32) &&& 0x3f).toInt64)), .second, .val (.long ((1099511627776 : Int64) - ((ib.toInt64) * ((1048576 : Int64) - (ia.toInt64))))), .second, .val (.double (0 : UInt64)), .second]) at_93 rfl rfl ?_
    refine aload (pc' := 97) at_95 rfl rfl rfl ?_
    refine call (i := 38) (i2 := 5) (Wd := 0) (pc' := 100) (kVirt (i := 34) (i2 := 35) (i3 := 37) (i4 := 36) (C := "com/example/contesta/contesta/rank/Hit") (a := r) (argsL := []) (S' := []) (Wd := 0) at_97 rfl rfl rfl rfl E3 (by decide) rfl pd_4 rfl rfl (Nat.le_of_ble_eq_true rfl)) (rm_sentence l Z a0 hw hEL n0 r i0 _ Fn3) rfl rfl (by simp) (by decide) (by decide) (by decide) (by decide) rfl fun v_ h39 P40 sz41 => ?_
    obtain ⟨rfl, e42⟩ := P40
    rw [e42]
    refine at' (ce' := 2) (sl' := 4) (pc' := 100) (L' := #[.val (.int i0), .val (.int i1), .val (.int i2), .val (.int ia), .val (.int ib), .val (.double (FP.ddiv (FP.i2d ia) (4697254411347427328 : UInt64))), .second, .val (.double (FP.ddiv (FP.i2d ib) (4697254411347427328 : UInt64))), .second, .val (.ref a28), .val (.ref r), .val (.long ((ia.toInt64) <<< ((20 : Int32) &&& 0x3f).toInt64)), .second, .val (.long ((1099511627776 : Int64) - ((ib.toInt64) * ((1048576 : Int64) - (ia.toInt64))))), .second, .val (.double (0 : UInt64)), .second]) (S' := [(.int i0)]) rfl rfl rfl rfl rfl ?_
    refine iloadN (pc' := 101) at_100 rfl rfl ?_
    refine icmpF (pc' := 104) at_101 (rfl : i0 = i0) rfl ?_
    refine aload (pc' := 106) at_104 rfl rfl rfl ?_
    refine call (i := 43) (i2 := 5) (Wd := 0) (pc' := 109) (kVirt (i := 39) (i2 := 40) (i3 := 42) (i4 := 41) (C := "com/example/contesta/contesta/rank/Hit") (a := r) (argsL := []) (S' := []) (Wd := 0) at_106 rfl rfl rfl rfl E3 (by decide) rfl pd_5 rfl rfl (Nat.le_of_ble_eq_true rfl)) (rm_score l Z a0 hw hEL n0 r (0 : UInt64) _ Fs3) rfl rfl (by simp) (by decide) (by decide) (by decide) (by decide) rfl fun v_ h43 P44 sz45 => ?_
    obtain ⟨rfl, e46⟩ := P44
    rw [e46]
    refine at' (ce' := 2) (sl' := 4) (pc' := 109) (L' := #[.val (.int i0), .val (.int i1), .val (.int i2), .val (.int ia), .val (.int ib), .val (.double (FP.ddiv (FP.i2d ia) (4697254411347427328 : UInt64))), .second, .val (.double (FP.ddiv (FP.i2d ib) (4697254411347427328 : UInt64))), .second, .val (.ref a28), .val (.ref r), .val (.long ((ia.toInt64) <<< ((20 : Int32) &&& 0x3f).toInt64)), .second, .val (.long ((1099511627776 : Int64) - ((ib.toInt64) * ((1048576 : Int64) - (ia.toInt64))))), .second, .val (.double (0 : UInt64)), .second]) (S' := [(.double (0 : UInt64))]) rfl rfl rfl rfl rfl ?_
    refine dload (pc' := 111) at_109 rfl rfl ?_
    refine dcmp (pc' := 112) at_111 rfl ?_
    refine ifF (pc' := 115) at_112 (dcmpV_self (by decide) .l : (cmpValue (FP.dcmp (0 : UInt64) (0 : UInt64)) .l) = (0 : Int32)) rfl ?_
    refine iconst (pc' := 116) (v := (1 : Int32)) at_115 rfl rfl ?_
    refine goto (pc' := 120) at_116 (by decide) rfl ?_
    exact retI at_120 rfl (Or.inr (Or.inl rfl)) rfl (by decide) (by decide) rfl
  · skip
    have hA0 : 0 < A := Nat.pos_of_ne_zero fun q => hz (Int32.toInt_inj.mp (by rw [hA, q]; rfl))
    have hm : b * (2 ^ 20 - A) ≤ 2 ^ 20 * (2 ^ 20 - 1) := Nat.mul_le_mul hb2 (by omega)
    have xn := Fp.ex_l2d (own_n hA hA2) (by omega)
    have xd := Fp.ex_l2d (own_d hA hA2 hb hb2) (by omega)
    have he := Fp.rr_val xn xd (by omega)
    rw [show (((0 : Nat) : Int) - (0 : Nat)) = 0 from rfl] at he
    refine call (i := 25) (i2 := 5) (Wd := 0) (pc' := 53) (kVirt (i := 21) (i2 := 22) (i3 := 24) (i4 := 23) (C := "com/example/contesta/contesta/rank/Hit") (a := a28) (argsL := [(.double (FP.ddiv (FP.i2d ib) (4697254411347427328 : UInt64)))]) (S' := []) (Wd := 0) at_50 rfl rfl rfl rfl E1 (by decide) rfl pd_3 rfl rfl (Nat.le_of_ble_eq_true rfl)) (rm_raised l Z a0 hw hEL n0 a28 i0 (FP.ddiv (FP.i2d ia) (4697254411347427328 : UInt64)) (FP.ddiv (FP.i2d ib) (4697254411347427328 : UInt64)) (FP.ddiv (FP.l2d (ia.toInt64 <<< ((20 : Int32) &&& 0x3f).toInt64)) (FP.l2d ((1099511627776 : Int64) - (ib.toInt64 * ((1048576 : Int64) - ia.toInt64))))) A b _ E1 Fn1 Fs1 sa sb hA0 hA2 hb2 he (fun x z hx hz => Fp.div_same hx hz (by omega) xn xd (by omega) (own_ratio _ _ (by omega)))) rfl rfl (by simp) (by decide) (by decide) (by decide) (by decide) rfl fun v_ h47 P48 sz49 => ?_
    obtain ⟨r, rfl, X3, E3, Fn3, Fs3⟩ := P48
    refine at' (ce' := 2) (sl' := 4) (pc' := 53) (L' := #[.val (.int i0), .val (.int i1), .val (.int i2), .val (.int ia), .val (.int ib), .val (.double (FP.ddiv (FP.i2d ia) (4697254411347427328 : UInt64))), .second, .val (.double (FP.ddiv (FP.i2d ib) (4697254411347427328 : UInt64))), .second, .val (.ref a28), .unset, .unset, .unset, .unset, .unset, .unset, .unset]) (S' := [(.ref r)]) rfl rfl rfl rfl rfl ?_
    refine astore (pc' := 55) (L' := #[.val (.int i0), .val (.int i1), .val (.int i2), .val (.int ia), .val (.int ib), .val (.double (FP.ddiv (FP.i2d ia) (4697254411347427328 : UInt64))), .second, .val (.double (FP.ddiv (FP.i2d ib) (4697254411347427328 : UInt64))), .second, .val (.ref a28), .val (.ref r), .unset, .unset, .unset, .unset, .unset, .unset]) at_53 rfl rfl rfl ?_
    refine iloadN (pc' := 56) at_55 rfl rfl ?_
    refine i2l (pc' := 57) at_56 rfl ?_
    refine bipush (pc' := 59) (v := (20 : Int32)) at_57 rfl rfl ?_
    refine lshl (pc' := 60) at_59 rfl ?_
    refine lstore (pc' := 62) (L' := #[.val (.int i0), .val (.int i1), .val (.int i2), .val (.int ia), .val (.int ib), .val (.double (FP.ddiv (FP.i2d ia) (4697254411347427328 : UInt64))), .second, .val (.double (FP.ddiv (FP.i2d ib) (4697254411347427328 : UInt64))), .second, .val (.ref a28), .val (.ref r), .val (.long ((ia.toInt64) <<< ((20 : Int32) &&& 0x3f).toInt64)), .second, .unset, .unset, .unset, .unset]) at_60 rfl rfl ?_
    refine ldc2Long (i := 32) (v := (1099511627776 : Int64)) (pc' := 65) at_62 rfl rfl ?_
    refine iload (pc' := 67) at_65 rfl rfl ?_
    refine i2l (pc' := 68) at_67 rfl ?_
    refine ldc2Long (i := 33) (v := (1048576 : Int64)) (pc' := 71) at_68 rfl rfl ?_
    refine iloadN (pc' := 72) at_71 rfl rfl ?_
    refine i2l (pc' := 73) at_72 rfl ?_
    refine lsub (pc' := 74) at_73 rfl ?_
    refine lmul (pc' := 75) at_74 rfl ?_
    refine lsub (pc' := 76) at_75 rfl ?_
    refine lstore (pc' := 78) (L' := #[.val (.int i0), .val (.int i1), .val (.int i2), .val (.int ia), .val (.int ib), .val (.double (FP.ddiv (FP.i2d ia) (4697254411347427328 : UInt64))), .second, .val (.double (FP.ddiv (FP.i2d ib) (4697254411347427328 : UInt64))), .second, .val (.ref a28), .val (.ref r), .val (.long ((ia.toInt64) <<< ((20 : Int32) &&& 0x3f).toInt64)), .second, .val (.long ((1099511627776 : Int64) - ((ib.toInt64) * ((1048576 : Int64) - (ia.toInt64))))), .second, .unset, .unset]) at_76 rfl rfl ?_
    refine iloadN (pc' := 79) at_78 rfl rfl ?_
    refine ifT (pc' := 86) at_79 (hz : ¬ (ia = (0 : Int32))) (by decide) rfl ?_
    refine lload (pc' := 88) at_86 rfl rfl ?_
    refine l2d (pc' := 89) at_88 rfl ?_
    refine lload (pc' := 91) at_89 rfl rfl ?_
    refine l2d (pc' := 92) at_91 rfl ?_
    refine ddiv (pc' := 93) (v := (FP.ddiv (FP.l2d (ia.toInt64 <<< ((20 : Int32) &&& 0x3f).toInt64)) (FP.l2d ((1099511627776 : Int64) - (ib.toInt64 * ((1048576 : Int64) - ia.toInt64)))))) at_92 (Fp.div_no xn xd (by omega)) rfl rfl ?_
    refine dstore (pc' := 95) (L' := #[.val (.int i0), .val (.int i1), .val (.int i2), .val (.int ia), .val (.int ib), .val (.double (FP.ddiv (FP.i2d ia) (4697254411347427328 : UInt64))), .second, .val (.double (FP.ddiv (FP.i2d ib) (4697254411347427328 : UInt64))), .second, .val (.ref a28), .val (.ref r), .val (.long ((ia.toInt64) <<< ((20 : Int32) &&& 0x3f).toInt64)), .second, .val (.long ((1099511627776 : Int64) - ((ib.toInt64) * ((1048576 : Int64) - (ia.toInt64))))), .second, .val (.double (FP.ddiv (FP.l2d (ia.toInt64 <<< ((20 : Int32) &&& 0x3f).toInt64)) (FP.l2d ((1099511627776 : Int64) - (ib.toInt64 * ((1048576 : Int64) - ia.toInt64)))))), .second]) at_93 rfl rfl ?_
    refine aload (pc' := 97) at_95 rfl rfl rfl ?_
    refine call (i := 38) (i2 := 5) (Wd := 0) (pc' := 100) (kVirt (i := 34) (i2 := 35) (i3 := 37) (i4 := 36) (C := "com/example/contesta/contesta/rank/Hit") (a := r) (argsL := []) (S' := []) (Wd := 0) at_97 rfl rfl rfl rfl E3 (by decide) rfl pd_4 rfl rfl (Nat.le_of_ble_eq_true rfl)) (rm_sentence l Z a0 hw hEL n0 r i0 _ Fn3) rfl rfl (by simp) (by decide) (by decide) (by decide) (by decide) rfl fun v_ h50 P51 sz52 => ?_
    obtain ⟨rfl, e53⟩ := P51
    rw [e53]
    refine at' (ce' := 2) (sl' := 4) (pc' := 100) (L' := #[.val (.int i0), .val (.int i1), .val (.int i2), .val (.int ia), .val (.int ib), .val (.double (FP.ddiv (FP.i2d ia) (4697254411347427328 : UInt64))), .second, .val (.double (FP.ddiv (FP.i2d ib) (4697254411347427328 : UInt64))), .second, .val (.ref a28), .val (.ref r), .val (.long ((ia.toInt64) <<< ((20 : Int32) &&& 0x3f).toInt64)), .second, .val (.long ((1099511627776 : Int64) - ((ib.toInt64) * ((1048576 : Int64) - (ia.toInt64))))), .second, .val (.double (FP.ddiv (FP.l2d (ia.toInt64 <<< ((20 : Int32) &&& 0x3f).toInt64)) (FP.l2d ((1099511627776 : Int64) - (ib.toInt64 * ((1048576 : Int64) - ia.toInt64)))))), .second]) (S' := [(.int i0)]) rfl rfl rfl rfl rfl ?_
    refine iloadN (pc' := 101) at_100 rfl rfl ?_
    refine icmpF (pc' := 104) at_101 (rfl : i0 = i0) rfl ?_
    refine aload (pc' := 106) at_104 rfl rfl rfl ?_
    refine call (i := 43) (i2 := 5) (Wd := 0) (pc' := 109) (kVirt (i := 39) (i2 := 40) (i3 := 42) (i4 := 41) (C := "com/example/contesta/contesta/rank/Hit") (a := r) (argsL := []) (S' := []) (Wd := 0) at_106 rfl rfl rfl rfl E3 (by decide) rfl pd_5 rfl rfl (Nat.le_of_ble_eq_true rfl)) (rm_score l Z a0 hw hEL n0 r (FP.ddiv (FP.l2d (ia.toInt64 <<< ((20 : Int32) &&& 0x3f).toInt64)) (FP.l2d ((1099511627776 : Int64) - (ib.toInt64 * ((1048576 : Int64) - ia.toInt64))))) _ Fs3) rfl rfl (by simp) (by decide) (by decide) (by decide) (by decide) rfl fun v_ h54 P55 sz56 => ?_
    obtain ⟨rfl, e57⟩ := P55
    rw [e57]
    refine at' (ce' := 2) (sl' := 4) (pc' := 109) (L' := #[.val (.int i0), .val (.int i1), .val (.int i2), .val (.int ia), .val (.int ib), .val (.double (FP.ddiv (FP.i2d ia) (4697254411347427328 : UInt64))), .second, .val (.double (FP.ddiv (FP.i2d ib) (4697254411347427328 : UInt64))), .second, .val (.ref a28), .val (.ref r), .val (.long ((ia.toInt64) <<< ((20 : Int32) &&& 0x3f).toInt64)), .second, .val (.long ((1099511627776 : Int64) - ((ib.toInt64) * ((1048576 : Int64) - (ia.toInt64))))), .second, .val (.double (FP.ddiv (FP.l2d (ia.toInt64 <<< ((20 : Int32) &&& 0x3f).toInt64)) (FP.l2d ((1099511627776 : Int64) - (ib.toInt64 * ((1048576 : Int64) - ia.toInt64)))))), .second]) (S' := [(.double (FP.ddiv (FP.l2d (ia.toInt64 <<< ((20 : Int32) &&& 0x3f).toInt64)) (FP.l2d ((1099511627776 : Int64) - (ib.toInt64 * ((1048576 : Int64) - ia.toInt64))))))]) rfl rfl rfl rfl rfl ?_
    refine dload (pc' := 111) at_109 rfl rfl ?_
    refine dcmp (pc' := 112) at_111 rfl ?_
    refine ifF (pc' := 115) at_112 (dcmpV_self (Fp.div_no xn xd (by omega)) .l : (cmpValue (FP.dcmp (FP.ddiv (FP.l2d (ia.toInt64 <<< ((20 : Int32) &&& 0x3f).toInt64)) (FP.l2d ((1099511627776 : Int64) - (ib.toInt64 * ((1048576 : Int64) - ia.toInt64))))) (FP.ddiv (FP.l2d (ia.toInt64 <<< ((20 : Int32) &&& 0x3f).toInt64)) (FP.l2d ((1099511627776 : Int64) - (ib.toInt64 * ((1048576 : Int64) - ia.toInt64)))))) .l) = (0 : Int32)) rfl ?_
    refine iconst (pc' := 116) (v := (1 : Int32)) at_115 rfl rfl ?_
    refine goto (pc' := 120) at_116 (by decide) rfl ?_
    exact retI at_120 rfl (Or.inr (Or.inl rfl)) rfl (by decide) (by decide) rfl
set_option maxRecDepth 65536 in
set_option maxHeartbeats 40000000 in
theorem comes_1 {Post : Tables → Env → Array Value → State → Outcome → State → Prop} (hpost : ∀ tb e args s v u, (limb_1_1.after args s (.returned v) u = true ∧ limb_1_2.after args s (.returned v) u = true ∧ True) → FrameEnd s (.returned v) u (Jvm.fieldLocs frame_1_writes args s ++ Jvm.arrayLocs frame_1_arrays args s ++ Jvm.staticLocs frame_1_statics s) 16 128 → Post tb e args s (.returned v) u) :
    ArmFor flags0 classFile x code maxLocals ret World_1 tables_1 room_1 Calls_1 rest_1 Pre_1 Post := by
  intro l hfl _ _ p e ha hc hk s m args below hf hA hF happ hP
  obtain ⟨hcalls, hrest, hpre⟩ := hP
  obtain ⟨-, -, -, hnamed, -, -, -, hat⟩ := (Spec.applies_iff hf).mp happ
  obtain ⟨hg, hn⟩ := and_e (Cond.before_iff.mp (show (Jvm.Cond.and given_1 narrow_1).before args s = true from hpre))
  obtain ⟨hcount, hg0⟩ := and_e hg
  obtain ⟨ga0, hg1⟩ := and_e hg0
  obtain ⟨ga1, hg2⟩ := and_e hg1
  have ga2 := hg2
  obtain ⟨w0, w1, w2, rfl⟩ : ∃ w0 w1 w2 : Value, args = #[w0, w1, w2] := by
    have hs : args.size = 3 := by simpa [Cond.value, given_1] using hcount
    obtain ⟨L⟩ := args
    match L, hs with
    | [w0, w1, w2], _ => exact ⟨w0, w1, w2, rfl⟩
  have hw := fun d (hd : d ∈ tables_1) => atoms_spec (ws := Jvm.Cond.code x code maxLocals ret :: tables_1) hat d (List.mem_cons_of_mem _ hd)
  have hfit : Fit s := fun {y c} hc i hi => by
    obtain ⟨ha, rfl⟩ := Array.getElem?_eq_some_iff.mp hc
    have q := List.all_eq_true.mp ((Array.all_eq_true_iff_forall_mem.mp hF) _ (Array.getElem_mem ha)) i (List.mem_range.mpr hi)
    simpa [Array.getElem?_eq_getElem hi] using q
  obtain ⟨i0, ei0⟩ := is_v ga0
  obtain rfl : w0 = (.int i0) := Option.some.inj ei0
  obtain ⟨i1, ei1⟩ := is_v ga1
  obtain rfl : w1 = (.int i1) := Option.some.inj ei1
  obtain ⟨i2, ei2⟩ := is_v ga2
  obtain rfl : w2 = (.int i2) := Option.some.inj ei2
  obtain ⟨n, o, h1, h2, h3, v, L, rfl, ⟨rfl, N, -⟩, hCH, hE, hWm⟩ := law_met l s _ hw EW.nil s.heap.size i0 i1 i2 s.heap p e ha hc hk s m _ below hf ((Spec.applies_iff_loose hf).mp happ).1 ⟨rfl, State.Warmed39.refl s, rfl, nilCHv, Old.start s, fun x q => nomatch q⟩ trivial
  refine ⟨n, _, h1, h2, h3, hpost _ _ _ _ _ _ ⟨Cond.after_iff.mpr rfl, Cond.after_iff.mpr (eq_i res_at (Term.int_eval (1)) rfl), trivial⟩ ⟨⟨_, rfl⟩, hWm rfl, (hE.2.2.2.sift fun y hy => Or.inr (N y hy)).mono (by decide) (by decide)⟩⟩
theorem main_1_1 : Claimed_1_1 := comes_1 fun _ _ _ _ _ _ h hF => ⟨h.1, hF⟩
theorem main_1_2 : Claimed_1_2 := comes_1 fun _ _ _ _ _ _ h hF => ⟨h.2.1, hF⟩
end Jvm.Pilot.@@N@@
namespace Jvm.Pilot.@@N@@
open Jvm Jvm.ClassFile Sem Op Lib Jvm.Free Jvm.Stand Jvm.Pilot.@@N@@.Jvm.D
/-! MADE BY PROGRAM (witnessworld.py) out of the Statement's table words and the real class files: 11 classes; the members and pool entries that the words name. The judged class is class 1, her method 1. -/
namespace start1
open Jvm.ClassFile
def u (s : String) : CpInfo := .utf8 (stringToUtf16 s)
/-- a pool by its gaps: so many unusable entries, then the entry; so many at the end -/
def gap : Nat → List CpInfo → List CpInfo
  | 0, r => r
  | n + 1, r => .unusable :: gap n r
def poolList (es : List (Nat × CpInfo)) (last : Nat) : List CpInfo := es.foldr (fun e r => gap e.1 (e.2 :: r)) (gap last [])
def pool (es : List (Nat × CpInfo)) (last : Nat) : Array CpInfo := ⟨poolList es last⟩
def fileOf (pool : Array CpInfo) (this : Nat) (attrs : Array Attribute := #[]) (ms : Array MethodInfo := #[]) (fl : Nat := 33) (sup : Nat := 0) (ifs : Array Nat := #[]) (fds : Array FieldInfo := #[]) : ClassFile where
  minorVersion := 0
  majorVersion := 65
  constantPool := pool
  accessFlags := fl
  thisClass := this
  superClass := sup
  interfaces := ifs
  fields := fds
  methods := ms
  attributes := attrs
def plain (name : String) (sup : Option ClassId) : Class where
  name := name
  kind := .ordinary
  loader := none
  accessFlags := 33
  super := sup
  interfaces := #[]
  cf := none
  fields := #[]
  methods := #[]
  instanceTypes := #[]
  staticTypes := #[]
  resolved := #[]
  callSites := []
  init := .initialized
  statics := none
  mirror := none

def pool0 : Array CpInfo := pool [(5, u "<init>"), (0, u "()V"), (1, .class_ 10), (1, u "java/lang/Object")] 113

def k0c0 : Code := { maxStack := 0, maxLocals := 1, code := object_method_1_code, exceptionTable := #[], attributes := #[] }
def k0m0 : Method := { name := "<init>", desc := "()V", sig := { parameters := [], returnType := none }, accessFlags := 1, code := some k0c0 }
/-- java/lang/Object -/
def k0 : Class := { plain "java/lang/Object" none with
  accessFlags := 33
  interfaces := #[]
  cf := some (fileOf pool0 8 #[] #[{ accessFlags := 1, nameIndex := 5, descriptorIndex := 6, attributes := #[] }] 33 0 #[] #[])
  fields := #[]
  methods := #[k0m0]
  instanceTypes := #[]
  staticTypes := #[]
  resolved := Array.replicate 124 none
  statics := none }

def pool1 : Array CpInfo := pool [(2, .class_ 4), (1, u "java/lang/Object"), (0, u "<init>"), (0, u "()V"), (0, .integer 2147483647), (0, .integer 1048577), (0, .double 4697254411347427328), (1, .class_ 12), (0, u "com/example/contesta/contesta/rank/Hit"), (0, .methodref 11 14), (0, .nameAndType 5 15), (0, u "(ID)V"), (0, .methodref 11 17), (0, .nameAndType 18 19), (0, u "raised"), (0, u "(D)Lcom/example/contesta/contesta/rank/Hit;"), (0, .long 1099511627776), (1, .long 1048576), (1, .methodref 11 25), (0, .nameAndType 26 27), (0, u "sentence"), (0, u "()I"), (0, .methodref 11 29), (0, .nameAndType 30 31), (0, u "score"), (0, u "()D"), (0, .class_ 33), (0, u "com/example/contesta/contesta/rank/HitRaisedPinLaw"), (2, u "law"), (0, u "(III)Z")] 3

def k1m0 : Method := { name := "<init>", desc := "()V", sig := { parameters := [], returnType := none }, accessFlags := 1, code := none }
def k1c1 : Code := { maxStack := 8, maxLocals := 17, code := code, exceptionTable := #[], attributes := #[] }
def k1m1 : Method := { name := "law", desc := "(III)Z", sig := { parameters := [.int, .int, .int], returnType := some .boolean }, accessFlags := 9, code := some k1c1 }
/-- com/example/contesta/contesta/rank/HitRaisedPinLaw -/
def k1 : Class := { plain "com/example/contesta/contesta/rank/HitRaisedPinLaw" (some 0) with
  accessFlags := 49
  interfaces := #[]
  cf := some (fileOf pool1 32 #[] #[{ accessFlags := 1, nameIndex := 5, descriptorIndex := 6, attributes := #[] }, { accessFlags := 9, nameIndex := 36, descriptorIndex := 37, attributes := #[] }] 49 2 #[] #[])
  fields := #[]
  methods := #[k1m0, k1m1]
  instanceTypes := #[]
  staticTypes := #[]
  resolved := Array.replicate 41 none
  statics := none }

def pool2 : Array CpInfo := pool [(1, .methodref 2 3), (0, .class_ 4), (0, .nameAndType 5 6), (0, u "java/lang/Object"), (0, u "<init>"), (0, u "()V"), (0, .class_ 8), (0, u "java/lang/Record")] 13

def k2c0 : Code := { maxStack := 1, maxLocals := 1, code := jdk_30_method_1_code, exceptionTable := #[], attributes := #[] }
def k2m0 : Method := { name := "<init>", desc := "()V", sig := { parameters := [], returnType := none }, accessFlags := 4, code := some k2c0 }
/-- java/lang/Record -/
def k2 : Class := { plain "java/lang/Record" (some 0) with
  accessFlags := 1057
  interfaces := #[]
  cf := some (fileOf pool2 7 #[] #[{ accessFlags := 4, nameIndex := 5, descriptorIndex := 6, attributes := #[] }] 1057 2 #[] #[])
  fields := #[]
  methods := #[k2m0]
  instanceTypes := #[]
  staticTypes := #[]
  resolved := Array.replicate 22 none
  statics := none }

def pool3 : Array CpInfo := pool [(1, .methodref 2 3), (0, .class_ 4), (0, .nameAndType 5 6), (0, u "java/lang/Record"), (0, u "<init>"), (0, u "()V"), (0, .fieldref 8 9), (0, .class_ 10), (0, .nameAndType 11 12), (0, u "com/example/contesta/contesta/rank/Hit"), (0, u "sentence"), (0, u "I"), (0, .fieldref 8 14), (0, .nameAndType 15 16), (0, u "score"), (0, u "D"), (0, .methodref 18 19), (0, .class_ 20), (0, .nameAndType 21 22), (0, u "java/lang/Math"), (0, u "min"), (0, u "(DD)D"), (0, .methodref 8 24), (0, .nameAndType 5 25), (0, u "(ID)V"), (36, u "BEST_FIRST"), (0, u "Ljava/util/Comparator;"), (5, u "raised"), (0, u "(D)Lcom/example/contesta/contesta/rank/Hit;"), (2, u "()I"), (1, u "()D")] 42

def k3c0 : Code := { maxStack := 3, maxLocals := 4, code := prog_30_method_1_code, exceptionTable := #[], attributes := #[] }
def k3m0 : Method := { name := "<init>", desc := "(ID)V", sig := { parameters := [.int, .double], returnType := none }, accessFlags := 1, code := some k3c0 }
def k3c1 : Code := { maxStack := 10, maxLocals := 5, code := prog_30_method_2_code, exceptionTable := #[], attributes := #[] }
def k3m1 : Method := { name := "raised", desc := "(D)Lcom/example/contesta/contesta/rank/Hit;", sig := { parameters := [.double], returnType := some (.object "com/example/contesta/contesta/rank/Hit") }, accessFlags := 0, code := some k3c1 }
def k3c2 : Code := { maxStack := 1, maxLocals := 1, code := prog_30_method_6_code, exceptionTable := #[], attributes := #[] }
def k3m2 : Method := { name := "sentence", desc := "()I", sig := { parameters := [], returnType := some .int }, accessFlags := 1, code := some k3c2 }
def k3c3 : Code := { maxStack := 2, maxLocals := 1, code := prog_30_method_7_code, exceptionTable := #[], attributes := #[] }
def k3m3 : Method := { name := "score", desc := "()D", sig := { parameters := [], returnType := some .double }, accessFlags := 1, code := some k3c3 }
/-- com/example/contesta/contesta/rank/Hit -/
def k3 : Class := { plain "com/example/contesta/contesta/rank/Hit" (some 2) with
  accessFlags := 49
  interfaces := #[]
  cf := some (fileOf pool3 8 #[] #[{ accessFlags := 1, nameIndex := 5, descriptorIndex := 25, attributes := #[] }, { accessFlags := 0, nameIndex := 69, descriptorIndex := 70, attributes := #[] }, { accessFlags := 1, nameIndex := 11, descriptorIndex := 73, attributes := #[] }, { accessFlags := 1, nameIndex := 15, descriptorIndex := 75, attributes := #[] }] 49 2 #[] #[{ accessFlags := 18, nameIndex := 11, descriptorIndex := 12, attributes := #[] }, { accessFlags := 18, nameIndex := 15, descriptorIndex := 16, attributes := #[] }, { accessFlags := 25, nameIndex := 62, descriptorIndex := 63, attributes := #[] }])
  fields := #[{ name := "sentence", type := .int, accessFlags := 18, slot := 0, constantValue := 0 }, { name := "score", type := .double, accessFlags := 18, slot := 1, constantValue := 0 }, { name := "BEST_FIRST", type := (.object "java/util/Comparator"), accessFlags := 25, slot := 0, constantValue := 0 }]
  methods := #[k3m0, k3m1, k3m2, k3m3]
  instanceTypes := #[.int, .double]
  staticTypes := #[(.object "java/util/Comparator")]
  resolved := Array.replicate 118 none
  statics := none }

def pool4 : Array CpInfo := pool [(1, .class_ 2), (0, u "java/lang/Math"), (1, .class_ 6), (1, u "java/lang/Object"), (0, u "<init>"), (0, u "()V"), (43, u "(DD)D"), (45, .class_ 100), (1, u "java/lang/Math$RandomNumberGeneratorHolder"), (71, u "negativeZeroFloatBits"), (0, u "J"), (2, u "negativeZeroDoubleBits"), (24, u "min"), (43, u "$assertionsDisabled"), (0, u "Z"), (91, u "twoToTheDoubleScaleDown"), (0, u "D"), (4, u "twoToTheDoubleScaleUp"), (9, u "E"), (3, u "PI"), (2, u "TAU"), (2, u "DEGREES_TO_RADIANS"), (0, u "RADIANS_TO_DEGREES")] 94

def k4m0 : Method := { name := "<init>", desc := "()V", sig := { parameters := [], returnType := none }, accessFlags := 2, code := none }
def k4c1 : Code := { maxStack := 4, maxLocals := 4, code := jdk_29_method_72_code, exceptionTable := #[], attributes := #[] }
def k4m1 : Method := { name := "min", desc := "(DD)D", sig := { parameters := [.double, .double], returnType := some .double }, accessFlags := 9, code := some k4c1 }
/-- java/lang/Math -/
def k4 : Class := { plain "java/lang/Math" (some 0) with
  accessFlags := 49
  interfaces := #[]
  cf := some (fileOf pool4 1 #[.nestMembers #[98]] #[{ accessFlags := 2, nameIndex := 7, descriptorIndex := 8, attributes := #[] }, { accessFlags := 9, nameIndex := 201, descriptorIndex := 52, attributes := #[] }] 49 4 #[] #[{ accessFlags := 25, nameIndex := 354, descriptorIndex := 339, attributes := #[] }, { accessFlags := 25, nameIndex := 358, descriptorIndex := 339, attributes := #[] }, { accessFlags := 25, nameIndex := 361, descriptorIndex := 339, attributes := #[] }, { accessFlags := 26, nameIndex := 364, descriptorIndex := 339, attributes := #[] }, { accessFlags := 26, nameIndex := 365, descriptorIndex := 339, attributes := #[] }, { accessFlags := 26, nameIndex := 172, descriptorIndex := 173, attributes := #[] }, { accessFlags := 26, nameIndex := 176, descriptorIndex := 173, attributes := #[] }, { accessFlags := 8, nameIndex := 344, descriptorIndex := 339, attributes := #[] }, { accessFlags := 8, nameIndex := 338, descriptorIndex := 339, attributes := #[] }, { accessFlags := 4120, nameIndex := 245, descriptorIndex := 246, attributes := #[] }])
  fields := #[{ name := "E", type := .double, accessFlags := 25, slot := 0, constantValue := 0 }, { name := "PI", type := .double, accessFlags := 25, slot := 1, constantValue := 0 }, { name := "TAU", type := .double, accessFlags := 25, slot := 2, constantValue := 0 }, { name := "DEGREES_TO_RADIANS", type := .double, accessFlags := 26, slot := 3, constantValue := 0 }, { name := "RADIANS_TO_DEGREES", type := .double, accessFlags := 26, slot := 4, constantValue := 0 }, { name := "negativeZeroFloatBits", type := .long, accessFlags := 26, slot := 5, constantValue := 0 }, { name := "negativeZeroDoubleBits", type := .long, accessFlags := 26, slot := 6, constantValue := 0 }, { name := "twoToTheDoubleScaleUp", type := .double, accessFlags := 8, slot := 7, constantValue := 0 }, { name := "twoToTheDoubleScaleDown", type := .double, accessFlags := 8, slot := 8, constantValue := 0 }, { name := "$assertionsDisabled", type := .boolean, accessFlags := 4120, slot := 9, constantValue := 0 }]
  methods := #[k4m0, k4m1]
  instanceTypes := #[]
  staticTypes := #[.double, .double, .double, .double, .double, .long, .long, .double, .double, .boolean]
  resolved := Array.replicate 460 none
  statics := none }

def pool5 : Array CpInfo := pool [(1, u "java/lang/Cloneable"), (0, .class_ 1), (0, u "java/lang/Object"), (0, .class_ 3)] 3

/-- java/lang/Cloneable -/
def k5 : Class := { plain "java/lang/Cloneable" (some 0) with
  accessFlags := 1537
  interfaces := #[]
  cf := some (fileOf pool5 2 #[] #[] 1537 4 #[] #[])
  fields := #[]
  methods := #[]
  instanceTypes := #[]
  staticTypes := #[]
  resolved := Array.replicate 8 none
  statics := none }

def pool6 : Array CpInfo := pool [(1, u "java/io/Serializable"), (0, .class_ 1), (0, u "java/lang/Object"), (0, .class_ 3)] 3

/-- java/io/Serializable -/
def k6 : Class := { plain "java/io/Serializable" (some 0) with
  accessFlags := 1537
  interfaces := #[]
  cf := some (fileOf pool6 2 #[] #[] 1537 4 #[] #[])
  fields := #[]
  methods := #[]
  instanceTypes := #[]
  staticTypes := #[]
  resolved := Array.replicate 8 none
  statics := none }

/-- the primitive byte -/
def k7 : Class := { plain "byte" none with kind := .primitive 'B', accessFlags := 0x411 }
/-- [B -/
def k8 : Class := { plain "[B" (some 0) with kind := .array 7 .byte, interfaces := #[5, 6], accessFlags := 1041 }

/-- the primitive int -/
def k9 : Class := { plain "int" none with kind := .primitive 'I', accessFlags := 0x411 }
/-- [I -/
def k10 : Class := { plain "[I" (some 0) with kind := .array 9 .int, interfaces := #[5, 6], accessFlags := 1041 }

def heap : Heap := #[]
def classes : Array Class := #[k0, k1, k2, k3, k4, k5, k6, k7, k8, k9, k10]
def interned : List (Array UInt16 × Addr) := []
def slotsUsed : Nat := 0
def theMethod : MethodId := ⟨1, 1⟩
def args0 : Array Value := #[.int 5, .int 6, .int 7]
def aboutOver (below : List Frame) : State where
  vm := { classes := classes, interned := interned.toArray }
  heap := heap
  slotsUsed := slotsUsed
  threads := #[{ frames := .invoking theMethod args0 :: below }]
def below0 : List Frame := [.native { method := ⟨0, 0⟩, args := #[] }]
def about1 : State := aboutOver below0
def p0 : Program := .bare "" "" ""
def e0 : Env := launch0.env 0 0 0
theorem w_frames : about1.frames = Frame.invoking theMethod args0 :: below0 := rfl
set_option maxRecDepth 65536 in
theorem w_args : argsFit about1.vm theMethod args0 = true := by decide +kernel
set_option maxRecDepth 65536 in
theorem w_heap : heapFits about1 = true := by decide +kernel
set_option maxRecDepth 65536 in
theorem w_runnable : about1.curStatus? = some .runnable := by decide +kernel
set_option maxRecDepth 65536 in
theorem w_alone : about1.alone = true := by decide +kernel
set_option maxRecDepth 65536 in
theorem w_named : about1.methodNamed? x = some theMethod := by decide +kernel
set_option maxRecDepth 65536 in
theorem w_hears : about1.hears theMethod below0 = true := by decide +kernel
set_option maxRecDepth 65536 in
theorem w_ripe : about1.ripe theMethod args0 below0 = true := by decide +kernel
theorem w_running : about1.status = .running := rfl
set_option maxRecDepth 65536 in
theorem w_room : about1.hasRoom e0.platform room_1 = true :=
  launch0.hasRoom_least _ room_1 (by decide +kernel) (by decide +kernel) (by decide +kernel) (by decide +kernel) (by decide +kernel) (by decide +kernel)
theorem allAtoms_all (ts : List Jvm.Cond) (a : Array Jvm.Value) (st : Jvm.State) : (allAtoms ts).before a st = ts.all (fun c => c.before a st) := by
  induction ts with
  | nil => rfl
  | cons c t ih =>
    show (Jvm.Cond.and c (allAtoms t)).before a st = _
    rw [Jvm.Cond.before_and, ih, List.all_cons]
def words1 : List Jvm.Cond := Jvm.Cond.code x code maxLocals ret :: tables_1
/-- a 'code' word, met by the world's own term for the bytes: nothing is compared byte by byte -/
theorem code_word {y : MethodName} {bytes : ByteArray} {mx : Nat} {rt : Option FieldType} {a : Array Value} {s : State} {m : MethodId} {meth : Method} {c : Code} (h1 : s.methodNamed? y = some m) (h2 : s.vm.method? m = some meth) (h3 : meth.code = some c) (h4 : c.code = bytes)
    (h5 : (c.maxLocals == mx && c.exceptionTable.isEmpty && decide (c.maxStack ≤ mostOperands) && decide (meth.sig.returnType = rt) && !meth.locks && decide (parseMethodDescriptor y.desc = some meth.sig)) = true) : (Jvm.Cond.code y bytes mx rt).before a s = true := by
  simp only [Bool.and_eq_true, beq_iff_eq, Bool.not_eq_true', decide_eq_true_eq] at h5
  obtain ⟨⟨⟨⟨⟨g1, g2⟩, g3⟩, g4⟩, g5⟩, g6⟩ := h5
  simp [Cond.before, Cond.holds, Cond.value, h1, h2, h3, h4, g1, g2, g3, g4, g5, g6]
def isCode : Jvm.Cond → Bool
  | .code _ _ _ _ => true
  | _ => false
theorem all_split {L : List Jvm.Cond} {P : Jvm.Cond → Bool} (h1 : L.all (fun c => isCode c || P c) = true) (h2 : ∀ c ∈ L.filter isCode, P c = true) : L.all P = true := by
  refine List.all_eq_true.mpr fun c hc => ?_
  have h := List.all_eq_true.mp h1 c hc
  rcases Bool.eq_false_or_eq_true (isCode c) with hi | hi
  · exact h2 c (List.mem_filter.mpr ⟨hc, hi⟩)
  · simpa [hi] using h
set_option maxRecDepth 65536 in
theorem w_c0 : (Jvm.Cond.code x code maxLocals ret).before args0 about1 = true := code_word (m := ⟨1, 1⟩) (meth := k1m1) (c := k1c1) (by decide +kernel) rfl rfl rfl (by decide +kernel)
set_option maxRecDepth 65536 in
theorem w_c1 : (Jvm.Cond.code ({ cls := "com/example/contesta/contesta/rank/Hit", name := "<init>", desc := "(ID)V" } : Jvm.MethodName) prog_30_method_1_code (4 : Nat) (Option.none : Option Jvm.ClassFile.FieldType)).before args0 about1 = true := code_word (m := ⟨3, 0⟩) (meth := k3m0) (c := k3c0) (by decide +kernel) rfl rfl rfl (by decide +kernel)
set_option maxRecDepth 65536 in
theorem w_c2 : (Jvm.Cond.code ({ cls := "java/lang/Record", name := "<init>", desc := "()V" } : Jvm.MethodName) jdk_30_method_1_code (1 : Nat) (Option.none : Option Jvm.ClassFile.FieldType)).before args0 about1 = true := code_word (m := ⟨2, 0⟩) (meth := k2m0) (c := k2c0) (by decide +kernel) rfl rfl rfl (by decide +kernel)
set_option maxRecDepth 65536 in
theorem w_c3 : (Jvm.Cond.code ({ cls := "java/lang/Object", name := "<init>", desc := "()V" } : Jvm.MethodName) object_method_1_code (1 : Nat) (Option.none : Option Jvm.ClassFile.FieldType)).before args0 about1 = true := code_word (m := ⟨0, 0⟩) (meth := k0m0) (c := k0c0) (by decide +kernel) rfl rfl rfl (by decide +kernel)
set_option maxRecDepth 65536 in
theorem w_c4 : (Jvm.Cond.code ({ cls := "com/example/contesta/contesta/rank/Hit", name := "raised", desc := "(D)Lcom/example/contesta/contesta/rank/Hit;" } : Jvm.MethodName) prog_30_method_2_code (5 : Nat) (Option.some (Jvm.ClassFile.FieldType.object "com/example/contesta/contesta/rank/Hit"))).before args0 about1 = true := code_word (m := ⟨3, 1⟩) (meth := k3m1) (c := k3c1) (by decide +kernel) rfl rfl rfl (by decide +kernel)
set_option maxRecDepth 65536 in
theorem w_c5 : (Jvm.Cond.code ({ cls := "java/lang/Math", name := "min", desc := "(DD)D" } : Jvm.MethodName) jdk_29_method_72_code (4 : Nat) (Option.some Jvm.ClassFile.FieldType.double)).before args0 about1 = true := code_word (m := ⟨4, 1⟩) (meth := k4m1) (c := k4c1) (by decide +kernel) rfl rfl rfl (by decide +kernel)
set_option maxRecDepth 65536 in
theorem w_c6 : (Jvm.Cond.code ({ cls := "com/example/contesta/contesta/rank/Hit", name := "sentence", desc := "()I" } : Jvm.MethodName) prog_30_method_6_code (1 : Nat) (Option.some Jvm.ClassFile.FieldType.int)).before args0 about1 = true := code_word (m := ⟨3, 2⟩) (meth := k3m2) (c := k3c2) (by decide +kernel) rfl rfl rfl (by decide +kernel)
set_option maxRecDepth 65536 in
theorem w_c7 : (Jvm.Cond.code ({ cls := "com/example/contesta/contesta/rank/Hit", name := "score", desc := "()D" } : Jvm.MethodName) prog_30_method_7_code (1 : Nat) (Option.some Jvm.ClassFile.FieldType.double)).before args0 about1 = true := code_word (m := ⟨3, 3⟩) (meth := k3m3) (c := k3c3) (by decide +kernel) rfl rfl rfl (by decide +kernel)
def codes1 : List Jvm.Cond := [Jvm.Cond.code x code maxLocals ret, Jvm.Cond.code ({ cls := "com/example/contesta/contesta/rank/Hit", name := "<init>", desc := "(ID)V" } : Jvm.MethodName) prog_30_method_1_code (4 : Nat) (Option.none : Option Jvm.ClassFile.FieldType), Jvm.Cond.code ({ cls := "java/lang/Record", name := "<init>", desc := "()V" } : Jvm.MethodName) jdk_30_method_1_code (1 : Nat) (Option.none : Option Jvm.ClassFile.FieldType), Jvm.Cond.code ({ cls := "java/lang/Object", name := "<init>", desc := "()V" } : Jvm.MethodName) object_method_1_code (1 : Nat) (Option.none : Option Jvm.ClassFile.FieldType), Jvm.Cond.code ({ cls := "com/example/contesta/contesta/rank/Hit", name := "raised", desc := "(D)Lcom/example/contesta/contesta/rank/Hit;" } : Jvm.MethodName) prog_30_method_2_code (5 : Nat) (Option.some (Jvm.ClassFile.FieldType.object "com/example/contesta/contesta/rank/Hit")), Jvm.Cond.code ({ cls := "java/lang/Math", name := "min", desc := "(DD)D" } : Jvm.MethodName) jdk_29_method_72_code (4 : Nat) (Option.some Jvm.ClassFile.FieldType.double), Jvm.Cond.code ({ cls := "com/example/contesta/contesta/rank/Hit", name := "sentence", desc := "()I" } : Jvm.MethodName) prog_30_method_6_code (1 : Nat) (Option.some Jvm.ClassFile.FieldType.int), Jvm.Cond.code ({ cls := "com/example/contesta/contesta/rank/Hit", name := "score", desc := "()D" } : Jvm.MethodName) prog_30_method_7_code (1 : Nat) (Option.some Jvm.ClassFile.FieldType.double)]
set_option maxRecDepth 65536 in
theorem codes_eq : words1.filter isCode = codes1 := rfl
theorem w_codes : ∀ c ∈ words1.filter isCode, c.before args0 about1 = true := by
  rw [codes_eq]
  intro c hc
  simp only [codes1, List.mem_cons, List.not_mem_nil, or_false] at hc
  rcases hc with rfl | rfl | rfl | rfl | rfl | rfl | rfl | rfl
  · exact w_c0
  · exact w_c1
  · exact w_c2
  · exact w_c3
  · exact w_c4
  · exact w_c5
  · exact w_c6
  · exact w_c7
set_option maxRecDepth 65536 in
theorem w_t1 : (words1.take 24).all (fun c => isCode c || c.before args0 about1) = true := by decide +kernel
set_option maxRecDepth 65536 in
theorem w_t2 : (words1.drop 24).all (fun c => isCode c || c.before args0 about1) = true := by decide +kernel
theorem w_tables : (allAtoms (Jvm.Cond.code x code maxLocals ret :: tables_1)).before args0 about1 = true := by
  rw [allAtoms_all]
  show words1.all (fun c => c.before args0 about1) = true
  refine all_split ?_ w_codes
  rw [← List.take_append_drop 24 words1, List.all_append, w_t1, w_t2]
  rfl
set_option maxRecDepth 65536 in
theorem w_case : (Jvm.Cond.and given_1 narrow_1).before args0 about1 = true := by decide +kernel
theorem w_applies : (headSpec (Jvm.Cond.code x code maxLocals ret :: tables_1) room_1).applies x e0.platform about1 = true :=
  (Spec.applies_iff w_frames).mpr ⟨w_running, w_runnable, w_alone, w_named, w_hears, w_ripe, w_room, w_tables⟩
theorem atStart : AtStart classFile x code maxLocals ret World_1 tables_1 room_1 Calls_1 rest_1 Pre_1 launch0 p0 e0 about1 theMethod args0 below0 :=
  ⟨lists_1, trivial, launch0.admits_env _ _ _, launch0.least_env, fairChoices_fair.cas, fairChoices_fair.clock, w_frames, w_args, w_heap, w_applies, trivial, trivial, w_case⟩
end start1
theorem witness_1 : WitnessClaimed_1 := ⟨start1.p0, start1.e0, start1.about1, start1.theMethod, start1.args0, start1.below0, start1.atStart⟩
end Jvm.Pilot.@@N@@
