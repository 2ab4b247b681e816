import JvmDerived
import JvmDerived.Pilot.@@N@@Statement
import JvmDerived.Pilot.@@N@@Code
set_option linter.unusedVariables false
set_option linter.unusedSimpArgs false
@@BLOCK:NumsL.lean.txt@@
namespace Jvm.Pilot.@@N@@
open Jvm Jvm.ClassFile Sem Op Lib Jvm.Free Jvm.Stand Jvm.LawKit Jvm.RoadKit Bundle Jvm.Pilot.@@N@@.Jvm.D
section OwnKit
variable {p : Program} {l : Launch} {e : Env} {R : Room} {s : State} {m : MethodId} {args : Array Value} {below : List Frame} {meth : Method} {c : Code} {T T' : State} {locs : List Loc} {cells slots : Nat} {Z : State} {a0 : Array Value} {h h' : Heap} {CC SS : Nat} {Q : Option Value → Heap → List Loc → Prop} {P : State → Prop} {g g' : JFrame} {pc q : Nat} {Ls l' : Array Slot} {st stk rest argsL : List Value}
/-- the run from here comes to a state of which P holds -/
def Go (p : Program) (e : Env) (below : List Frame) (P : State → Prop) (T : State) (g : JFrame) : Prop := ∃ s₂, Steps p.tables e below (T.setTop g) s₂ ∧ P s₂
/-- it ended by a return, and what it leaves is Q -/
def PN (below : List Frame) (s : State) (CC SS : Nat) (Q : Option Value → Heap → List Loc → Prop) (s₂ : State) : Prop :=
  s₂.status = .running ∧ ∃ v L, Ended s₂ below (.returned v) ∧ Q v s₂.heap L ∧ FrameEnd s (.returned v) s₂ L CC SS
theorem Go.back (K : Go p e below P T' g') (k : ∀ t, Steps p.tables e below (T'.setTop g') t → Steps p.tables e below (T.setTop g) t) : Go p e below P T g := by
  obtain ⟨s₂, h1, h2⟩ := K
  exact ⟨s₂, k _ h1, h2⟩
theorem own_le {n0 : Nat} (X : Old Z n0 h) : n0 ≤ h.size := X.1 ▸ X.2.1
theorem own_ge {n0 a : Nat} (X : Old Z n0 h) (g : a = h.size) : n0 ≤ a := g ▸ own_le X
theorem own_lt {a b : Nat} {h : Heap} (g : b = h.size) (k : a < h.size) : a ≠ b := by rw [g]; exact Nat.ne_of_lt k
theorem own_ltg {a b : Nat} {h : Heap} (g : h.size ≤ b) (k : a < h.size) : a ≠ b := Nat.ne_of_lt (Nat.lt_of_lt_of_le k g)
/-- what a body's walk shows -/
def Con (l : Launch) (Z : State) (y : MethodName) (bytes : ByteArray) (maxL : Nat) (ret : Option FieldType) (rm : Room) (as' : Array Value) (h0 : Heap) (Q : Option Value → Heap → List Loc → Prop) : Prop :=
  ∀ ws : List Jvm.Cond, MetFree l y (head1 (Jvm.Cond.code y bytes maxL ret :: ws) rm) (fun a U => a = as' ∧ Z.Warmed39 U.vm ∧ U.heap = h0) (fun _ _ _ _ _ => True) (fun _ U o U' => ∃ v L, o = .returned v ∧ Q v U'.heap L ∧ FrameEnd U o U' L rm.cells rm.slots)
theorem Con.of {y : MethodName} {bytes : ByteArray} {maxL : Nat} {ret : Option FieldType} {rm : Room} {as' : Array Value} {h0 : Heap} (hpl : plainFor y = true)
    (body : ∀ p e s m below meth c s₁, p.tables.exec = Jvm.exec → c.code = bytes → c.maxLocals = maxL → Z.Warmed39 s.vm → s.vm.findClass y.cls = some m.cls → meth.name = y.name → meth.sig.returnType = ret → meth.locks = false → Stand p l e rm s m as' below meth c s₁ [] 0 0 → s₁.heap = h0 → Go p e below (PN below s rm.cells rm.slots Q) s₁ (entryFrame m as' maxL)) : Con l Z y bytes maxL ret rm as' h0 Q := by
  intro ws
  refine MetFree.of_bodySF hpl hisR ?_
  intro p e s m args below meth c s₁ Bd hml0 hP hK
  obtain ⟨rfl, hZ, hh⟩ := hP
  obtain ⟨s₂, h1, h2, v, L, h3, h4, h5⟩ := body p e s m below meth c s₁ Bd.exec Bd.bytes hml0 hZ (findClass_of_methodNamed Bd.named) (name_of_methodNamed Bd.named Bd.method).1 Bd.returns Bd.notSynchronized (Stand.of_body Bd) (by rw [← hh, Bd.state]; rfl)
  exact ⟨s₂, _, h1, h2, h3, v, L, rfl, h4, h5⟩
theorem go_cast (K : Go p e below P T g') (k : g = g') : Go p e below P T g := k ▸ K
theorem go_ret0 (X : Stand p l e R s m args below meth c T locs cells slots) (hx : p.tables.exec = Jvm.exec) (hret : meth.sig.returnType = none) (hlk : meth.locks = false) (eT : T.heap = h) (hd : decode c.code pc = .ok (.return_, 1)) (hc : cells ≤ CC) (hs : slots ≤ SS) (hQ : Q none h locs) : Go p e below (PN below s CC SS Q) T (mkF m pc Ls []) := by
  obtain ⟨fs, hr, hrun, hended, hW, hsame⟩ := X.leave (v := none) (fun _ => rfl) hlk
  exact ⟨_, X.returnOut hx hret hd hr, hrun, _, _, hended, by rw [← eT] at hQ; exact hQ, ⟨_, rfl⟩, hW, hsame.mono hc hs⟩
theorem go_retA {t : FieldType} {w : Value} (X : Stand p l e R s m args below meth c T locs cells slots) (hx : p.tables.exec = Jvm.exec) (hret : meth.sig.returnType = some t) (hlk : meth.locks = false) (eT : T.heap = h) (hd : decode c.code pc = .ok (.areturn, 1)) (ht : t.isReference = true) (hw : w.isRef = true) (hn : narrow t w = w) (hc : cells ≤ CC) (hs : slots ≤ SS) (hQ : Q (some w) h locs) : Go p e below (PN below s CC SS Q) T (mkF m pc Ls (w :: st)) := by
  obtain ⟨fs, hr, hrun, hended, hW, hsame⟩ := X.leave (v := some w) (fun z => by rw [hret] at z; cases z) hlk
  exact ⟨_, retOut X hx hret hn (Or.inr (Or.inr (Or.inr (Or.inr ⟨rfl, ht, hw⟩)))) hd hr, hrun, _, _, hended, by rw [← eT] at hQ; exact hQ, ⟨_, rfl⟩, hW, hsame.mono hc hs⟩
theorem go_retI {t : FieldType} {z : Int32} (X : Stand p l e R s m args below meth c T locs cells slots) (hx : p.tables.exec = Jvm.exec) (hret : meth.sig.returnType = some t) (hlk : meth.locks = false) (eT : T.heap = h) (hd : decode c.code pc = .ok (.ireturn, 1)) (ht : t = .int ∨ t = .boolean ∨ t = .byte ∨ t = .char ∨ t = .short) (hn : narrow t (.int z) = .int z) (hc : cells ≤ CC) (hs : slots ≤ SS) (hQ : Q (some (.int z)) h locs) : Go p e below (PN below s CC SS Q) T (mkF m pc Ls (.int z :: st)) := by
  obtain ⟨fs, hr, hrun, hended, hW, hsame⟩ := X.leave (v := some (.int z)) (fun z => by rw [hret] at z; cases z) hlk
  exact ⟨_, retOut X hx hret hn (Or.inl ⟨rfl, ht, z, rfl⟩) hd hr, hrun, _, _, hended, by rw [← eT] at hQ; exact hQ, ⟨_, rfl⟩, hW, hsame.mono hc hs⟩
theorem go_retL {z : Int64} (X : Stand p l e R s m args below meth c T locs cells slots) (hx : p.tables.exec = Jvm.exec) (hret : meth.sig.returnType = some .long) (hlk : meth.locks = false) (eT : T.heap = h) (hd : decode c.code pc = .ok (.lreturn, 1)) (hc : cells ≤ CC) (hs : slots ≤ SS) (hQ : Q (some (.long z)) h locs) : Go p e below (PN below s CC SS Q) T (mkF m pc Ls (.long z :: st)) := by
  obtain ⟨fs, hr, hrun, hended, hW, hsame⟩ := X.leave (v := some (.long z)) (fun z => by rw [hret] at z; cases z) hlk
  exact ⟨_, retOut X hx hret rfl (Or.inr (Or.inl ⟨rfl, rfl, z, rfl⟩)) hd hr, hrun, _, _, hended, by rw [← eT] at hQ; exact hQ, ⟨_, rfl⟩, hW, hsame.mono hc hs⟩
theorem go_aload_n {k : Fin 4} {v : Value} (X : Stand p l e R s m args below meth c T locs cells slots) (hx : p.tables.exec = Jvm.exec) (hd : decode c.code pc = .ok (.aload_n k, 1)) (hl : Ls[k.val]? = some (.val v)) (hv : v.isRef = true) (hq : pc + 1 = q) (K : Go p e below P T (mkF m q Ls (v :: st))) : Go p e below P T (mkF m pc Ls st) := by
  subst hq; exact K.back fun _ j => XS.aloadN X.here hx rfl hd hl hv j
theorem go_aload {k : Nat} {v : Value} (X : Stand p l e R s m args below meth c T locs cells slots) (hx : p.tables.exec = Jvm.exec) (hd : decode c.code pc = .ok (.aload k, 2)) (hl : Ls[k]? = some (.val v)) (hv : v.isRef = true) (hq : pc + 2 = q) (K : Go p e below P T (mkF m q Ls (v :: st))) : Go p e below P T (mkF m pc Ls st) := by
  subst hq; exact K.back fun _ j => XS.aload X.here hx rfl hd hl hv j
theorem go_iload_n {k : Fin 4} {v : Int32} (X : Stand p l e R s m args below meth c T locs cells slots) (hx : p.tables.exec = Jvm.exec) (hd : decode c.code pc = .ok (.iload_n k, 1)) (hl : Ls[k.val]? = some (.val (.int v))) (hq : pc + 1 = q) (K : Go p e below P T (mkF m q Ls (.int v :: st))) : Go p e below P T (mkF m pc Ls st) := by
  subst hq; exact K.back fun _ j => XS.iloadN X.here hx rfl hd hl j
theorem go_iload {k : Nat} {v : Int32} (X : Stand p l e R s m args below meth c T locs cells slots) (hx : p.tables.exec = Jvm.exec) (hd : decode c.code pc = .ok (.iload k, 2)) (hl : Ls[k]? = some (.val (.int v))) (hq : pc + 2 = q) (K : Go p e below P T (mkF m q Ls (.int v :: st))) : Go p e below P T (mkF m pc Ls st) := by
  subst hq; exact K.back fun _ j => XS.iload X.here hx rfl hd hl j
theorem go_lload_n {k : Fin 4} {v : Int64} (X : Stand p l e R s m args below meth c T locs cells slots) (hx : p.tables.exec = Jvm.exec) (hd : decode c.code pc = .ok (.lload_n k, 1)) (hl : Ls[k.val]? = some (.val (.long v))) (hq : pc + 1 = q) (K : Go p e below P T (mkF m q Ls (.long v :: st))) : Go p e below P T (mkF m pc Ls st) := by
  subst hq; exact K.back fun _ j => XT.lloadN X.here hx rfl hd hl j
theorem go_lload {k : Nat} {v : Int64} (X : Stand p l e R s m args below meth c T locs cells slots) (hx : p.tables.exec = Jvm.exec) (hd : decode c.code pc = .ok (.lload k, 2)) (hl : Ls[k]? = some (.val (.long v))) (hq : pc + 2 = q) (K : Go p e below P T (mkF m q Ls (.long v :: st))) : Go p e below P T (mkF m pc Ls st) := by
  subst hq; exact K.back fun _ j => XT.lload X.here hx rfl hd hl j
theorem go_istore_n {k : Fin 4} {x : Int32} (X : Stand p l e R s m args below meth c T locs cells slots) (hx : p.tables.exec = Jvm.exec) (hd : decode c.code pc = .ok (.istore_n k, 1)) (hl : storeLocals Ls k.val (.int x) = some l') (hq : pc + 1 = q) (K : Go p e below P T (mkF m q l' st)) : Go p e below P T (mkF m pc Ls (.int x :: st)) := by
  subst hq; exact K.back fun _ j => XS.istoreN X.here hx rfl hd rfl hl j
theorem go_istore {k : Nat} {x : Int32} (X : Stand p l e R s m args below meth c T locs cells slots) (hx : p.tables.exec = Jvm.exec) (hd : decode c.code pc = .ok (.istore k, 2)) (hl : storeLocals Ls k (.int x) = some l') (hq : pc + 2 = q) (K : Go p e below P T (mkF m q l' st)) : Go p e below P T (mkF m pc Ls (.int x :: st)) := by
  subst hq; exact K.back fun _ j => XS.istore X.here hx rfl hd rfl hl j
theorem go_astore_n {k : Fin 4} {x : Value} (X : Stand p l e R s m args below meth c T locs cells slots) (hx : p.tables.exec = Jvm.exec) (hd : decode c.code pc = .ok (.astore_n k, 1)) (hv : x.isRef = true) (hl : storeLocals Ls k.val x = some l') (hq : pc + 1 = q) (K : Go p e below P T (mkF m q l' st)) : Go p e below P T (mkF m pc Ls (x :: st)) := by
  subst hq; exact K.back fun _ j => XS.astoreN X.here hx rfl hd rfl hv hl j
theorem go_astore {k : Nat} {x : Value} (X : Stand p l e R s m args below meth c T locs cells slots) (hx : p.tables.exec = Jvm.exec) (hd : decode c.code pc = .ok (.astore k, 2)) (hv : x.isRef = true) (hl : storeLocals Ls k x = some l') (hq : pc + 2 = q) (K : Go p e below P T (mkF m q l' st)) : Go p e below P T (mkF m pc Ls (x :: st)) := by
  subst hq; exact K.back fun _ j => XS.astore X.here hx rfl hd rfl hv hl j
theorem go_lstore_n {k : Fin 4} {x : Int64} (X : Stand p l e R s m args below meth c T locs cells slots) (hx : p.tables.exec = Jvm.exec) (hd : decode c.code pc = .ok (.lstore_n k, 1)) (hl : storeLocals Ls k.val (.long x) = some l') (hq : pc + 1 = q) (K : Go p e below P T (mkF m q l' st)) : Go p e below P T (mkF m pc Ls (.long x :: st)) := by
  subst hq; exact K.back fun _ j => XT.lstoreN X.here hx rfl hd rfl hl j
theorem go_lstore {k : Nat} {x : Int64} (X : Stand p l e R s m args below meth c T locs cells slots) (hx : p.tables.exec = Jvm.exec) (hd : decode c.code pc = .ok (.lstore k, 2)) (hl : storeLocals Ls k (.long x) = some l') (hq : pc + 2 = q) (K : Go p e below P T (mkF m q l' st)) : Go p e below P T (mkF m pc Ls (.long x :: st)) := by
  subst hq; exact K.back fun _ j => XT.lstore X.here hx rfl hd rfl hl j
theorem go_iconst {i : Int} {v : Int32} (X : Stand p l e R s m args below meth c T locs cells slots) (hx : p.tables.exec = Jvm.exec) (hd : decode c.code pc = .ok (.iconst i, 1)) (hv : Int32.ofInt i = v) (hq : pc + 1 = q) (K : Go p e below P T (mkF m q Ls (.int v :: st))) : Go p e below P T (mkF m pc Ls st) := by
  subst hq; exact K.back fun _ j => XT.iconstV X.here hx rfl v hd hv j
theorem go_bipush {i : Int} {v : Int32} (X : Stand p l e R s m args below meth c T locs cells slots) (hx : p.tables.exec = Jvm.exec) (hd : decode c.code pc = .ok (.bipush i, 2)) (hv : (Int8.ofInt i).toInt32 = v) (hq : pc + 2 = q) (K : Go p e below P T (mkF m q Ls (.int v :: st))) : Go p e below P T (mkF m pc Ls st) := by
  subst hq; exact K.back fun _ j => XT.bipushV X.here hx rfl v hd hv j
theorem go_sipush {i : Int} {v : Int32} (X : Stand p l e R s m args below meth c T locs cells slots) (hx : p.tables.exec = Jvm.exec) (hd : decode c.code pc = .ok (.sipush i, 3)) (hv : (Int16.ofInt i).toInt32 = v) (hq : pc + 3 = q) (K : Go p e below P T (mkF m q Ls (.int v :: st))) : Go p e below P T (mkF m pc Ls st) := by
  subst hq; exact K.back fun _ j => XT.sipushV X.here hx rfl v hd hv j
theorem go_lconst {k : Fin 2} {v : Int64} (X : Stand p l e R s m args below meth c T locs cells slots) (hx : p.tables.exec = Jvm.exec) (hd : decode c.code pc = .ok (.lconst k, 1)) (hv : Int64.ofNat k = v) (hq : pc + 1 = q) (K : Go p e below P T (mkF m q Ls (.long v :: st))) : Go p e below P T (mkF m pc Ls st) := by
  subst hq; exact K.back fun _ j => XT.lconstV X.here hx rfl v hd hv j
theorem go_aconst_null  (X : Stand p l e R s m args below meth c T locs cells slots) (hx : p.tables.exec = Jvm.exec) (hd : decode c.code pc = .ok (.aconst_null, 1))  (hq : pc + 1 = q) (K : Go p e below P T (mkF m q Ls (.null :: st))) : Go p e below P T (mkF m pc Ls st) := by
  subst hq; exact K.back fun _ j => XS.aconstNull X.here hx rfl hd j
theorem go_iadd {x y v : Int32} (X : Stand p l e R s m args below meth c T locs cells slots) (hx : p.tables.exec = Jvm.exec) (hd : decode c.code pc = .ok (.iadd, 1)) (hv : x + y = v) (hq : pc + 1 = q) (K : Go p e below P T (mkF m q Ls (.int v :: st))) : Go p e below P T (mkF m pc Ls (.int y :: .int x :: st)) := by
  subst hq; exact K.back fun _ j => XS.iadd X.here hx rfl hd rfl (hv ▸ j)
theorem go_isub {x y v : Int32} (X : Stand p l e R s m args below meth c T locs cells slots) (hx : p.tables.exec = Jvm.exec) (hd : decode c.code pc = .ok (.isub, 1)) (hv : x - y = v) (hq : pc + 1 = q) (K : Go p e below P T (mkF m q Ls (.int v :: st))) : Go p e below P T (mkF m pc Ls (.int y :: .int x :: st)) := by
  subst hq; exact K.back fun _ j => XS.isub X.here hx rfl hd rfl (hv ▸ j)
theorem go_imul {x y v : Int32} (X : Stand p l e R s m args below meth c T locs cells slots) (hx : p.tables.exec = Jvm.exec) (hd : decode c.code pc = .ok (.imul, 1)) (hv : x * y = v) (hq : pc + 1 = q) (K : Go p e below P T (mkF m q Ls (.int v :: st))) : Go p e below P T (mkF m pc Ls (.int y :: .int x :: st)) := by
  subst hq; exact K.back fun _ j => XS.imul X.here hx rfl hd rfl (hv ▸ j)
theorem go_iand {x y v : Int32} (X : Stand p l e R s m args below meth c T locs cells slots) (hx : p.tables.exec = Jvm.exec) (hd : decode c.code pc = .ok (.iand, 1)) (hv : x &&& y = v) (hq : pc + 1 = q) (K : Go p e below P T (mkF m q Ls (.int v :: st))) : Go p e below P T (mkF m pc Ls (.int y :: .int x :: st)) := by
  subst hq; exact K.back fun _ j => XS.iand X.here hx rfl hd rfl (hv ▸ j)
theorem go_ior {x y v : Int32} (X : Stand p l e R s m args below meth c T locs cells slots) (hx : p.tables.exec = Jvm.exec) (hd : decode c.code pc = .ok (.ior, 1)) (hv : x ||| y = v) (hq : pc + 1 = q) (K : Go p e below P T (mkF m q Ls (.int v :: st))) : Go p e below P T (mkF m pc Ls (.int y :: .int x :: st)) := by
  subst hq; exact K.back fun _ j => XT.ior X.here hx rfl hd rfl (hv ▸ j)
theorem go_ixor {x y v : Int32} (X : Stand p l e R s m args below meth c T locs cells slots) (hx : p.tables.exec = Jvm.exec) (hd : decode c.code pc = .ok (.ixor, 1)) (hv : x ^^^ y = v) (hq : pc + 1 = q) (K : Go p e below P T (mkF m q Ls (.int v :: st))) : Go p e below P T (mkF m pc Ls (.int y :: .int x :: st)) := by
  subst hq; exact K.back fun _ j => XT.ixor X.here hx rfl hd rfl (hv ▸ j)
theorem go_ishl {x y v : Int32} (X : Stand p l e R s m args below meth c T locs cells slots) (hx : p.tables.exec = Jvm.exec) (hd : decode c.code pc = .ok (.ishl, 1)) (hv : x <<< (y &&& 31) = v) (hq : pc + 1 = q) (K : Go p e below P T (mkF m q Ls (.int v :: st))) : Go p e below P T (mkF m pc Ls (.int y :: .int x :: st)) := by
  subst hq; exact K.back fun _ j => XT.ishl X.here hx rfl hd rfl (hv ▸ j)
theorem go_ishr {x y v : Int32} (X : Stand p l e R s m args below meth c T locs cells slots) (hx : p.tables.exec = Jvm.exec) (hd : decode c.code pc = .ok (.ishr, 1)) (hv : x >>> (y &&& 31) = v) (hq : pc + 1 = q) (K : Go p e below P T (mkF m q Ls (.int v :: st))) : Go p e below P T (mkF m pc Ls (.int y :: .int x :: st)) := by
  subst hq; exact K.back fun _ j => XT.ishr X.here hx rfl hd rfl (hv ▸ j)
theorem go_iushr {x y v : Int32} (X : Stand p l e R s m args below meth c T locs cells slots) (hx : p.tables.exec = Jvm.exec) (hd : decode c.code pc = .ok (.iushr, 1)) (hv : XT.ushr x y = v) (hq : pc + 1 = q) (K : Go p e below P T (mkF m q Ls (.int v :: st))) : Go p e below P T (mkF m pc Ls (.int y :: .int x :: st)) := by
  subst hq; exact K.back fun _ j => XT.iushr X.here hx rfl hd rfl (hv ▸ j)
theorem go_irem {x y : Int32} (X : Stand p l e R s m args below meth c T locs cells slots) (hx : p.tables.exec = Jvm.exec) (hd : decode c.code pc = .ok (.irem, 1)) (hy : y ≠ 0) (hq : pc + 1 = q) (K : Go p e below P T (mkF m q Ls (.int (x % y) :: st))) : Go p e below P T (mkF m pc Ls (.int y :: .int x :: st)) := by
  subst hq; exact K.back fun _ j => RoadKit.iremM X hx rfl hd rfl hy j
theorem go_idiv {x y : Int32} (X : Stand p l e R s m args below meth c T locs cells slots) (hx : p.tables.exec = Jvm.exec) (hd : decode c.code pc = .ok (.idiv, 1)) (hy : y ≠ 0) (hq : pc + 1 = q) (K : Go p e below P T (mkF m q Ls (.int (x / y) :: st))) : Go p e below P T (mkF m pc Ls (.int y :: .int x :: st)) := by
  subst hq; exact K.back fun _ j => XS.idiv X.here hx rfl hd rfl hy j
theorem go_i2c {x v : Int32} (X : Stand p l e R s m args below meth c T locs cells slots) (hx : p.tables.exec = Jvm.exec) (hd : decode c.code pc = .ok (.i2c, 1)) (hv : x.toUInt32.toUInt16.toUInt32.toInt32 = v) (hq : pc + 1 = q) (K : Go p e below P T (mkF m q Ls (.int v :: st))) : Go p e below P T (mkF m pc Ls (.int x :: st)) := by
  subst hq; exact K.back fun _ j => XT.i2c X.here hx rfl hd rfl (hv ▸ j)
theorem go_i2b {x v : Int32} (X : Stand p l e R s m args below meth c T locs cells slots) (hx : p.tables.exec = Jvm.exec) (hd : decode c.code pc = .ok (.i2b, 1)) (hv : x.toInt8.toInt32 = v) (hq : pc + 1 = q) (K : Go p e below P T (mkF m q Ls (.int v :: st))) : Go p e below P T (mkF m pc Ls (.int x :: st)) := by
  subst hq; exact K.back fun _ j => XT.i2b X.here hx rfl hd rfl (hv ▸ j)
theorem go_i2l {x : Int32} (X : Stand p l e R s m args below meth c T locs cells slots) (hx : p.tables.exec = Jvm.exec) (hd : decode c.code pc = .ok (.i2l, 1))  (hq : pc + 1 = q) (K : Go p e below P T (mkF m q Ls (.long x.toInt64 :: st))) : Go p e below P T (mkF m pc Ls (.int x :: st)) := by
  subst hq; exact K.back fun _ j => XT.i2l X.here hx rfl hd rfl j
theorem go_ladd {x y : Int64} (X : Stand p l e R s m args below meth c T locs cells slots) (hx : p.tables.exec = Jvm.exec) (hd : decode c.code pc = .ok (.ladd, 1))  (hq : pc + 1 = q) (K : Go p e below P T (mkF m q Ls (.long (x + y) :: st))) : Go p e below P T (mkF m pc Ls (.long y :: .long x :: st)) := by
  subst hq; exact K.back fun _ j => XT.ladd X.here hx rfl hd rfl j
theorem go_lsub {x y : Int64} (X : Stand p l e R s m args below meth c T locs cells slots) (hx : p.tables.exec = Jvm.exec) (hd : decode c.code pc = .ok (.lsub, 1))  (hq : pc + 1 = q) (K : Go p e below P T (mkF m q Ls (.long (x - y) :: st))) : Go p e below P T (mkF m pc Ls (.long y :: .long x :: st)) := by
  subst hq; exact K.back fun _ j => XT.lsub X.here hx rfl hd rfl j
theorem go_lmul {x y : Int64} (X : Stand p l e R s m args below meth c T locs cells slots) (hx : p.tables.exec = Jvm.exec) (hd : decode c.code pc = .ok (.lmul, 1))  (hq : pc + 1 = q) (K : Go p e below P T (mkF m q Ls (.long (x * y) :: st))) : Go p e below P T (mkF m pc Ls (.long y :: .long x :: st)) := by
  subst hq; exact K.back fun _ j => XT.lmul X.here hx rfl hd rfl j
theorem go_land {x y : Int64} (X : Stand p l e R s m args below meth c T locs cells slots) (hx : p.tables.exec = Jvm.exec) (hd : decode c.code pc = .ok (.land, 1))  (hq : pc + 1 = q) (K : Go p e below P T (mkF m q Ls (.long (x &&& y) :: st))) : Go p e below P T (mkF m pc Ls (.long y :: .long x :: st)) := by
  subst hq; exact K.back fun _ j => XT.land X.here hx rfl hd rfl j
theorem go_lor {x y : Int64} (X : Stand p l e R s m args below meth c T locs cells slots) (hx : p.tables.exec = Jvm.exec) (hd : decode c.code pc = .ok (.lor, 1))  (hq : pc + 1 = q) (K : Go p e below P T (mkF m q Ls (.long (x ||| y) :: st))) : Go p e below P T (mkF m pc Ls (.long y :: .long x :: st)) := by
  subst hq; exact K.back fun _ j => XT.lor X.here hx rfl hd rfl j
theorem go_lxor {x y : Int64} (X : Stand p l e R s m args below meth c T locs cells slots) (hx : p.tables.exec = Jvm.exec) (hd : decode c.code pc = .ok (.lxor, 1))  (hq : pc + 1 = q) (K : Go p e below P T (mkF m q Ls (.long (x ^^^ y) :: st))) : Go p e below P T (mkF m pc Ls (.long y :: .long x :: st)) := by
  subst hq; exact K.back fun _ j => XT.lxor X.here hx rfl hd rfl j
theorem go_lshl {x : Int64} {y : Int32} (X : Stand p l e R s m args below meth c T locs cells slots) (hx : p.tables.exec = Jvm.exec) (hd : decode c.code pc = .ok (.lshl, 1))  (hq : pc + 1 = q) (K : Go p e below P T (mkF m q Ls (.long (x <<< (y.toInt64 &&& 63)) :: st))) : Go p e below P T (mkF m pc Ls (.int y :: .long x :: st)) := by
  subst hq; exact K.back fun _ j => XT.lshl X.here hx rfl hd rfl j
theorem go_lcmp {x y : Int64} (X : Stand p l e R s m args below meth c T locs cells slots) (hx : p.tables.exec = Jvm.exec) (hd : decode c.code pc = .ok (.lcmp, 1))  (hq : pc + 1 = q) (K : Go p e below P T (mkF m q Ls (.int (XT.cmpL x y) :: st))) : Go p e below P T (mkF m pc Ls (.long y :: .long x :: st)) := by
  subst hq; exact K.back fun _ j => XT.lcmp X.here hx rfl hd rfl j
theorem go_dload_n {k : Fin 4} {v : UInt64} (X : Stand p l e R s m args below meth c T locs cells slots) (hx : p.tables.exec = Jvm.exec) (hd : decode c.code pc = .ok (.dload_n k, 1)) (hl : Ls[k.val]? = some (.val (.double v))) (hq : pc + 1 = q) (K : Go p e below P T (mkF m q Ls (.double v :: st))) : Go p e below P T (mkF m pc Ls st) := by
  subst hq; exact K.back fun _ j => XS.dloadN X.here hx rfl hd hl j
theorem go_dload {k : Nat} {v : UInt64} (X : Stand p l e R s m args below meth c T locs cells slots) (hx : p.tables.exec = Jvm.exec) (hd : decode c.code pc = .ok (.dload k, 2)) (hl : Ls[k]? = some (.val (.double v))) (hq : pc + 2 = q) (K : Go p e below P T (mkF m q Ls (.double v :: st))) : Go p e below P T (mkF m pc Ls st) := by
  subst hq; exact K.back fun _ j => XS.dload X.here hx rfl hd hl j
theorem go_dstore_n {k : Fin 4} {x : UInt64} (X : Stand p l e R s m args below meth c T locs cells slots) (hx : p.tables.exec = Jvm.exec) (hd : decode c.code pc = .ok (.dstore_n k, 1)) (hl : storeLocals Ls k.val (.double x) = some l') (hq : pc + 1 = q) (K : Go p e below P T (mkF m q l' st)) : Go p e below P T (mkF m pc Ls (.double x :: st)) := by
  subst hq; exact K.back fun _ j => XS.dstoreN X.here hx rfl hd rfl hl j
theorem go_dstore {k : Nat} {x : UInt64} (X : Stand p l e R s m args below meth c T locs cells slots) (hx : p.tables.exec = Jvm.exec) (hd : decode c.code pc = .ok (.dstore k, 2)) (hl : storeLocals Ls k (.double x) = some l') (hq : pc + 2 = q) (K : Go p e below P T (mkF m q l' st)) : Go p e below P T (mkF m pc Ls (.double x :: st)) := by
  subst hq; exact K.back fun _ j => XS.dstore X.here hx rfl hd rfl hl j
theorem go_dconst0 {v : UInt64} (X : Stand p l e R s m args below meth c T locs cells slots) (hx : p.tables.exec = Jvm.exec) (hd : decode c.code pc = .ok (.dconst 0, 1)) (hv : FP.dconst0 = v) (hq : pc + 1 = q) (K : Go p e below P T (mkF m q Ls (.double v :: st))) : Go p e below P T (mkF m pc Ls st) := by
  subst hq; exact K.back fun _ j => XS.dconst0 X.here hx rfl hd hv j
theorem go_dconst1 {v : UInt64} (X : Stand p l e R s m args below meth c T locs cells slots) (hx : p.tables.exec = Jvm.exec) (hd : decode c.code pc = .ok (.dconst 1, 1)) (hv : FP.dconst1 = v) (hq : pc + 1 = q) (K : Go p e below P T (mkF m q Ls (.double v :: st))) : Go p e below P T (mkF m pc Ls st) := by
  subst hq; exact K.back fun _ j => XS.dconst1 X.here hx rfl hd hv j
theorem go_i2d {x : Int32} (X : Stand p l e R s m args below meth c T locs cells slots) (hx : p.tables.exec = Jvm.exec) (hd : decode c.code pc = .ok (.i2d, 1))  (hq : pc + 1 = q) (K : Go p e below P T (mkF m q Ls (.double (FP.i2d x) :: st))) : Go p e below P T (mkF m pc Ls (.int x :: st)) := by
  subst hq; exact K.back fun _ j => XS.i2dS X.here hx rfl hd rfl rfl j
theorem go_dcmp {o : CmpOp} {x y : UInt64} (X : Stand p l e R s m args below meth c T locs cells slots) (hx : p.tables.exec = Jvm.exec) (hd : decode c.code pc = .ok (.dcmp o, 1))  (hq : pc + 1 = q) (K : Go p e below P T (mkF m q Ls (.int (cmpValue (FP.dcmp x y) o) :: st))) : Go p e below P T (mkF m pc Ls (.double y :: .double x :: st)) := by
  subst hq; exact K.back fun _ j => XS.dcmpS X.here hx rfl hd rfl rfl j
theorem go_ddiv {x y : UInt64} (X : Stand p l e R s m args below meth c T locs cells slots) (hx : p.tables.exec = Jvm.exec) (hd : decode c.code pc = .ok (.ddiv, 1)) (hn : Jvm.Free.Fl.NoNaN64 (FP.ddiv x y)) (hq : pc + 1 = q) (K : Go p e below P T (mkF m q Ls (.double (FP.ddiv x y) :: st))) : Go p e below P T (mkF m pc Ls (.double y :: .double x :: st)) := by
  subst hq; exact K.back fun _ j => XS.ddivS X.here hx rfl hd rfl hn rfl j
theorem go_iinc {k : Nat} {cst : Int} {x v : Int32} (X : Stand p l e R s m args below meth c T locs cells slots) (hx : p.tables.exec = Jvm.exec) (hd : decode c.code pc = .ok (.iinc k cst, 3)) (hl : Ls[k]? = some (.val (.int x))) (hv : x + Int32.ofInt cst = v) (hl' : storeLocals Ls k (.int v) = some l') (hq : pc + 3 = q) (K : Go p e below P T (mkF m q l' st)) : Go p e below P T (mkF m pc Ls st) := by
  subst hq; exact K.back fun _ j => XS.iinc X.here hx rfl hd hl (by rw [hv]; exact hl') j
theorem go_dup {x : Value} (X : Stand p l e R s m args below meth c T locs cells slots) (hx : p.tables.exec = Jvm.exec) (hd : decode c.code pc = .ok (.dup, 1)) (hc : x.category = 1) (hq : pc + 1 = q) (K : Go p e below P T (mkF m q Ls (x :: x :: st))) : Go p e below P T (mkF m pc Ls (x :: st)) := by
  subst hq; exact K.back fun _ j => XS.dup X.here hx rfl hd rfl hc j
theorem go_dup_x1 {x y : Value} (X : Stand p l e R s m args below meth c T locs cells slots) (hx : p.tables.exec = Jvm.exec) (hd : decode c.code pc = .ok (.dup_x1, 1)) (hc : x.category = 1) (hc' : y.category = 1) (hq : pc + 1 = q) (K : Go p e below P T (mkF m q Ls (x :: y :: x :: st))) : Go p e below P T (mkF m pc Ls (x :: y :: st)) := by
  subst hq; exact K.back fun _ j => XT.dupX1 X.here hx rfl hd rfl hc hc' j
theorem go_pop {x : Value} (X : Stand p l e R s m args below meth c T locs cells slots) (hx : p.tables.exec = Jvm.exec) (hd : decode c.code pc = .ok (.pop, 1)) (hc : x.category = 1) (hq : pc + 1 = q) (K : Go p e below P T (mkF m q Ls st)) : Go p e below P T (mkF m pc Ls (x :: st)) := by
  subst hq; exact K.back fun _ j => XT.pop X.here hx rfl hd rfl hc j
theorem go_ifN {cd : ClassFile.Cond} {o : Int} {x : Int32} (X : Stand p l e R s m args below meth c T locs cells slots) (hx : p.tables.exec = Jvm.exec) (hd : decode c.code pc = .ok (.ifCond cd o, 3)) (hc : ifCond.holds cd x = false) (hq : pc + 3 = q) (K : Go p e below P T (mkF m q Ls st)) : Go p e below P T (mkF m pc Ls (.int x :: st)) := by
  subst hq; exact K.back fun _ j => XS.ifNo X.here hx rfl hd rfl hc j
theorem go_icmpN {cd : ClassFile.Cond} {o : Int} {x y : Int32} (X : Stand p l e R s m args below meth c T locs cells slots) (hx : p.tables.exec = Jvm.exec) (hd : decode c.code pc = .ok (.if_icmp cd o, 3)) (hc : if_icmp.holds cd x y = false) (hq : pc + 3 = q) (K : Go p e below P T (mkF m q Ls st)) : Go p e below P T (mkF m pc Ls (.int y :: .int x :: st)) := by
  subst hq; exact K.back fun _ j => XS.icmpNo X.here hx rfl hd rfl hc j
theorem go_ifnullN {o : Int} {b : Addr} (X : Stand p l e R s m args below meth c T locs cells slots) (hx : p.tables.exec = Jvm.exec) (hd : decode c.code pc = .ok (.ifnull o, 3))  (hq : pc + 3 = q) (K : Go p e below P T (mkF m q Ls st)) : Go p e below P T (mkF m pc Ls (.ref b :: st)) := by
  subst hq; exact K.back fun _ j => XS.ifnullNo X.here hx rfl hd rfl j
theorem go_ifnonnullN {o : Int} (X : Stand p l e R s m args below meth c T locs cells slots) (hx : p.tables.exec = Jvm.exec) (hd : decode c.code pc = .ok (.ifnonnull o, 3))  (hq : pc + 3 = q) (K : Go p e below P T (mkF m q Ls st)) : Go p e below P T (mkF m pc Ls (.null :: st)) := by
  subst hq; exact K.back fun _ j => XT.ifnonnullNo X.here hx rfl hd rfl j
theorem go_goto  {o : Int} (X : Stand p l e R s m args below meth c T locs cells slots) (hx : p.tables.exec = Jvm.exec) (hd : decode c.code pc = .ok (.goto o, 3))  (ho : 0 ≤ (pc : Int) + o) (hq : ((pc : Int) + o).toNat = q) (K : Go p e below P T (mkF m q Ls st)) : Go p e below P T (mkF m pc Ls st) :=
  K.back fun _ j => XS.goto X.here hx rfl (pc0 := pc) rfl hd ho hq j
theorem go_ifY {cd : ClassFile.Cond} {x : Int32} {o : Int} (X : Stand p l e R s m args below meth c T locs cells slots) (hx : p.tables.exec = Jvm.exec) (hd : decode c.code pc = .ok (.ifCond cd o, 3)) (hc : ifCond.holds cd x = true) (ho : 0 ≤ (pc : Int) + o) (hq : ((pc : Int) + o).toNat = q) (K : Go p e below P T (mkF m q Ls st)) : Go p e below P T (mkF m pc Ls (.int x :: st)) :=
  K.back fun _ j => XS.ifYes X.here hx rfl (pc0 := pc) rfl hd rfl hc ho hq j
theorem go_icmpY {cd : ClassFile.Cond} {x y : Int32} {o : Int} (X : Stand p l e R s m args below meth c T locs cells slots) (hx : p.tables.exec = Jvm.exec) (hd : decode c.code pc = .ok (.if_icmp cd o, 3)) (hc : if_icmp.holds cd x y = true) (ho : 0 ≤ (pc : Int) + o) (hq : ((pc : Int) + o).toNat = q) (K : Go p e below P T (mkF m q Ls st)) : Go p e below P T (mkF m pc Ls (.int y :: .int x :: st)) :=
  K.back fun _ j => XS.icmpYes X.here hx rfl (pc0 := pc) rfl hd rfl hc ho hq j
theorem go_ifnullY  {o : Int} (X : Stand p l e R s m args below meth c T locs cells slots) (hx : p.tables.exec = Jvm.exec) (hd : decode c.code pc = .ok (.ifnull o, 3))  (ho : 0 ≤ (pc : Int) + o) (hq : ((pc : Int) + o).toNat = q) (K : Go p e below P T (mkF m q Ls st)) : Go p e below P T (mkF m pc Ls (.null :: st)) :=
  K.back fun _ j => XS.ifnullYes X.here hx rfl (pc0 := pc) rfl hd rfl ho hq j
theorem go_ifnonnullY {b : Addr} {o : Int} (X : Stand p l e R s m args below meth c T locs cells slots) (hx : p.tables.exec = Jvm.exec) (hd : decode c.code pc = .ok (.ifnonnull o, 3))  (ho : 0 ≤ (pc : Int) + o) (hq : ((pc : Int) + o).toNat = q) (K : Go p e below P T (mkF m q Ls st)) : Go p e below P T (mkF m pc Ls (.ref b :: st)) :=
  K.back fun _ j => XT.ifnonnullYes X.here hx rfl (pc0 := pc) rfl hd rfl ho hq j
theorem go_ldcI {v : Int32} {own : String} {index : Nat} (X : Stand p l e R s m args below meth c T locs cells slots) (hx : p.tables.exec = Jvm.exec) (hZ : Z.Warmed39 s.vm) (hown : s.vm.findClass own = some m.cls) (w : (Cond.constant own index v).before a0 Z = true) (hd : decode c.code pc = .ok (.ldc index, 2)) (hq : pc + 2 = q) (K : Go p e below P T (mkF m q Ls (.int v :: st))) : Go p e below P T (mkF m pc Ls st) := by
  subst hq; exact K.back fun _ k => X.ldcI hx hown (mvT hZ w) rfl hd k
theorem go_ldc2J {v : Int64} {own : String} {index : Nat} (X : Stand p l e R s m args below meth c T locs cells slots) (hx : p.tables.exec = Jvm.exec) (hZ : Z.Warmed39 s.vm) (hown : s.vm.findClass own = some m.cls) (w : (Cond.constantLong own index v).before a0 Z = true) (hd : decode c.code pc = .ok (.ldc2_w index, 3)) (hq : pc + 3 = q) (K : Go p e below P T (mkF m q Ls (.long v :: st))) : Go p e below P T (mkF m pc Ls st) := by
  subst hq; exact K.back fun _ k => X.ldc2J hx hown (mvT hZ w) rfl hd k
theorem go_ldc2D {v : UInt64} {own : String} {index : Nat} (X : Stand p l e R s m args below meth c T locs cells slots) (hx : p.tables.exec = Jvm.exec) (hZ : Z.Warmed39 s.vm) (hown : s.vm.findClass own = some m.cls) (w : (Cond.constantDouble own index v).before a0 Z = true) (hd : decode c.code pc = .ok (.ldc2_w index, 3)) (hq : pc + 3 = q) (K : Go p e below P T (mkF m q Ls (.double v :: st))) : Go p e below P T (mkF m pc Ls st) := by
  subst hq; exact K.back fun t k => X.ldc2DoubleC hx hown (mvT hZ w) (g := mkF m pc Ls st) rfl hd t k
theorem own_cI (x : Int32) : (Value.int x).category = 1 := rfl
theorem own_cR (x : Addr) : (Value.ref x).category = 1 := rfl
theorem own_cN : Value.null.category = 1 := rfl
theorem own_cJ (x : Int64) : (Value.long x).category = 2 := rfl
theorem own_cD (x : UInt64) : (Value.double x).category = 2 := rfl
theorem own_narb (x : Int32) : nar .byte x.toInt8.toInt32 = x.toInt8.toInt32 := by simp [nar]
theorem own_eqI {first s : State} {o : Option Outcome} {idx : List Nat} {t : Term} {k : Int32} (h : (Cond.eq t (Term.int k)).value args first o s idx = some true) : t.eval args first o idx s = some (.int k) := by
  simp only [Cond.value, Term.eval] at h
  cases ht : t.eval args first o idx s with
  | none => simp [ht] at h
  | some x => cases x <;> simp [ht] at h ⊢; exact h
theorem own_eqR {first s : State} {o : Option Outcome} {idx : List Nat} {t u : Term} {b : Addr} (h : (Cond.eq t u).value args first o s idx = some true) (hu : u.eval args first o idx s = some (.ref b)) : t.eval args first o idx s = some (.ref b) := by
  simp only [Cond.value, hu] at h
  cases ht : t.eval args first o idx s with
  | none => simp [ht] at h
  | some x => cases x <;> simp [ht] at h ⊢; exact h
theorem own_narR {t : FieldType} {v : Value} (h : v.isRef = true) (ht : t.isReference = true) : narrow t v = v := by cases v <;> simp [Value.isRef] at h <;> cases t <;> first | rfl | (simp [FieldType.isReference] at ht)
theorem own_fitR {t : FieldType} {v : Value} (h : v.isRef = true) (ht : t.isReference = true) : fits t v = true := by cases v <;> simp [Value.isRef] at h <;> cases t <;> first | rfl | (simp [FieldType.isReference] at ht)
theorem go_cast1 {own KK : String} {index : Nat} {a : Addr} (X : Stand p l e R s m args below meth c T locs cells slots) (hx : p.tables.exec = Jvm.exec) (hZ : Z.Warmed39 s.vm) (hown : s.vm.findClass own = some m.cls) (w : (Cond.classLink own index KK).before a0 Z = true) (eT : T.heap = h) (F : Ins Z h a KK true) (hd : decode c.code pc = .ok (.checkcast index, 3)) (hq : pc + 3 = q)
    (K : ∀ T', Stand p l e R s m args below meth c T' locs cells slots → T'.heap = h → Go p e below P T' (mkF m q Ls (.ref a :: st))) : Go p e below P T (mkF m pc Ls (.ref a :: st)) := by
  subst hq
  obtain ⟨T', X', e', k⟩ := castY X hx hZ hown w eT F (g := mkF m pc Ls (.ref a :: st)) rfl rfl hd
  exact (K T' X' e').back k
theorem go_acmp {cd : ACond} {x y : Value} {o : Int} {same : Bool} (X : Stand p l e R s m args below meth c T locs cells slots) (hx : p.tables.exec = Jvm.exec) (hd : decode c.code pc = .ok (.if_acmp cd o, 3)) (h1 : x.isRef = true) (h2 : y.isRef = true) (hq : decide (x = y) = same) (ho : 0 ≤ (pc : Int) + o) (hp : q = if acV cd same = true then ((pc : Int) + o).toNat else pc + 3)
    (K : Go p e below P T (mkF m q Ls st)) : Go p e below P T (mkF m pc Ls (y :: x :: st)) :=
  K.back fun _ k => RoadKit.acmp X hx rfl h1 h2 rfl hd rfl hq ho hp k
theorem go_getF {own R0 O n d host : String} {index : Nat} {a : Addr} {v : Value} (X : Stand p l e R s m args below meth c T locs cells slots) (hx : p.tables.exec = Jvm.exec) (hZ : Z.Warmed39 s.vm) (hown : s.vm.findClass own = some m.cls) (w : (Cond.fieldLink own index R0 n d).before a0 Z = true ∨ (Cond.fieldLinkNest own index R0 n d host).before a0 Z = true) (via : Via Z R0 O n d) (eT : T.heap = h) (F : Fld Z h a O n d v) (hd : decode c.code pc = .ok (.getfield index, 3)) (hq : pc + 3 = q)
    (K : ∀ T', Stand p l e R s m args below meth c T' locs cells slots → T'.heap = h → Go p e below P T' (mkF m q Ls (v :: st))) : Go p e below P T (mkF m pc Ls (.ref a :: st)) := by
  subst hq
  obtain ⟨T', X', e', k⟩ := getF X hx hZ hown w via eT F (g := mkF m pc Ls (.ref a :: st)) rfl rfl hd
  exact (K T' X' e').back k
theorem go_getS {own R0 O n d host : String} {index : Nat} {v : Value} (X : Stand p l e R s m args below meth c T locs cells slots) (hx : p.tables.exec = Jvm.exec) (hZ : Z.Warmed39 s.vm) (hown : s.vm.findClass own = some m.cls) (w : (Cond.fieldLink own index R0 n d).before a0 Z = true ∨ (Cond.fieldLinkNest own index R0 n d host).before a0 Z = true) (via : Via Z R0 O n d) (eT : T.heap = h) (F : Sta Z h O n d v) (hd : decode c.code pc = .ok (.getstatic index, 3)) (hq : pc + 3 = q)
    (K : ∀ T', Stand p l e R s m args below meth c T' locs cells slots → T'.heap = h → Go p e below P T' (mkF m q Ls (v :: st))) : Go p e below P T (mkF m pc Ls st) := by
  subst hq
  obtain ⟨T', X', e', k⟩ := getS2 X hx hZ hown w via eT F (g := mkF m pc Ls st) rfl hd
  exact (K T' X' e').back k
theorem go_putF {own R0 O n d host C : String} {index kk : Nat} {ty : FieldType} {a : Addr} {v old : Value} (X : Stand p l e R s m args below meth c T locs cells slots) (hx : p.tables.exec = Jvm.exec) (hZ : Z.Warmed39 s.vm) (hown : s.vm.findClass own = some m.cls) (w : (Cond.fieldLink own index R0 n d).before a0 Z = true ∨ (Cond.fieldLinkNest own index R0 n d host).before a0 Z = true) (via : Via Z R0 O n d)
    (eT : T.heap = h) (F : Fld Z h a O n d old) (E : Exa Z h a C) (L : (Cond.lays C O n d).before a0 Z = true ∨ ((Cond.laysFinal C O n d).before a0 Z = true ∧ own = O ∧ meth.name = "<init>")) (wi : (Cond.instantiable C kk).before a0 Z = true)
    (hty : parseFieldDescriptor d = some ty) (hn : narrow ty v = v) (hf : fits ty v = true) (hd : decode c.code pc = .ok (.putfield index, 3)) (hq : pc + 3 = q)
    (K : ∀ T' h', Stand p l e R s m args below meth c T' (locs ++ [⟨a, RoadKit.slotOf Z O n d⟩]) cells slots → T'.heap = h' → Wr h h' a (RoadKit.slotOf Z O n d) v → Go p e below P T' (mkF m q Ls st)) : Go p e below P T (mkF m pc Ls (v :: .ref a :: st)) := by
  subst hq
  obtain ⟨T', h', X', e', W, k⟩ := putF X hx hZ hown w via eT F E L wi hty hn hf (g := mkF m pc Ls (v :: .ref a :: st)) rfl rfl hd
  exact (K T' h' X' e' W).back k
theorem go_new {own C : String} {index n : Nat} (X : Stand p l e R s m args below meth c T locs cells slots) (hx : p.tables.exec = Jvm.exec) (hZ : Z.Warmed39 s.vm) (hown : s.vm.findClass own = some m.cls) (w : (Cond.classLink own index C).before a0 Z = true) (wi : (Cond.instantiable C n).before a0 Z = true) (wz : (Cond.initialized C).before a0 Z = true) (eT : T.heap = h) (hd : decode c.code pc = .ok (.new index, 3)) (hc : cells + 1 ≤ R.cells) (hl : slots + n ≤ R.slots) (hq : pc + 3 = q)
    (K : ∀ T' h' a, a = h.size → Stand p l e R s m args below meth c T' locs (cells + 1) (slots + n) → T'.heap = h' → Ext h h' → Exa Z h' a C → (∀ {O nm d : String} {ty : FieldType}, Laid Z a0 C O nm d → parseFieldDescriptor d = some ty → Fld Z h' a O nm d (defaultValue ty)) → Go p e below P T' (mkF m q Ls (.ref a :: st))) : Go p e below P T (mkF m pc Ls st) := by
  subst hq
  obtain ⟨T', h', X', e', E, A, D, -, k⟩ := newO X hx hZ hown w wi wz eT (g := mkF m pc Ls st) rfl hd hc hl
  exact (K T' h' _ rfl X' e' E A D).back k
theorem go_initO {own : String} {idx W : Nat} {a : Addr} (X : Stand p l e R s m args below meth c T locs cells slots) (hx : p.tables.exec = Jvm.exec) (hZ : Z.Warmed39 s.vm) (hown : s.vm.findClass own = some m.cls) (w1 : (Cond.methodLink own idx Lib.objectInit).before a0 Z = true) (w2 : (Cond.instanceMethod Lib.objectInit).before a0 Z = true)
    (w3 : (Cond.code Lib.objectInit ⟨#[0xb1]⟩ 1 none).before a0 Z = true) (eT : T.heap = h) (hml : Ls.size = c.maxLocals) (hd : decode c.code pc = .ok (.invokespecial idx, 3)) (hf : 1 ≤ R.frames) (hW : (st.map fun v => v.category).sum ≤ W) (hl : W + 12 ≤ R.locals) (hq : pc + 3 = q)
    (K : ∀ T', Stand p l e R s m args below meth c T' locs cells slots → T'.heap = h → Go p e below P T' (mkF m q Ls st)) : Go p e below P T (mkF m pc Ls (.ref a :: st)) := by
  subst hq
  obtain ⟨T', X', e', k⟩ := initO X hx hZ hown w1 w2 w3 eT (g := mkF m pc Ls (.ref a :: st)) rfl hml rfl hd hf (W := W) (by show 2 * 0 + _ ≤ _; omega) hl
  exact (K T' X' e').back k
theorem go_alen {a : Addr} {k : ClassId} {ty : FieldType} {n : Int32} {vs : List Value} {dv : Value} (X : Stand p l e R s m args below meth c T locs cells slots) (hx : p.tables.exec = Jvm.exec) (hZ : Z.Warmed39 s.vm) (eT : T.heap = h) (F : Arv Z h a k ty n vs dv) (hd : decode c.code pc = .ok (.arraylength, 1)) (hq : pc + 1 = q) (K : Go p e below P T (mkF m q Ls (.int n :: st))) : Go p e below P T (mkF m pc Ls (.ref a :: st)) := by
  subst hq
  obtain ⟨cl, A, e1, S, nz, H, G⟩ := F
  exact K.back fun t j => X.arraylength hx (by rw [eT]; exact A.1) (State.isArrayOf_alike hZ.alike A.2.1) (g := mkF m pc Ls (.ref a :: st)) rfl rfl hd t (by rw [len_of S nz]; exact j)
theorem go_newP {aty : ArrayType} {ty : FieldType} {n : Int32} {cap : Nat} {vs : List Value} {dv : Value} (X : Stand p l e R s m args below meth c T locs cells slots) (hx : p.tables.exec = Jvm.exec) (hZ : Z.Warmed39 s.vm) (hty : newarray.typeOf aty = ty) (w : (Cond.arrayClass ty).before a0 Z = true) (eT : T.heap = h) (hd : decode c.code pc = .ok (.newarray aty, 2)) (hn : ¬ n < 0) (hcap : n.toNatClampNeg ≤ cap) (hb : cap * 8 ≤ 536870912) (hc : cells + 1 ≤ R.cells) (hl : slots + cap ≤ R.slots) (hdv : defaultValue ty = dv) (hvs : List.replicate cap dv = vs) (hq : pc + 2 = q)
    (K : ∀ T' h' a k, a = h.size → Stand p l e R s m args below meth c T' locs (cells + 1) (slots + cap) → T'.heap = h' → Ext h h' → Arv Z h' a k ty n vs dv → Go p e below P T' (mkF m q Ls (.ref a :: st))) : Go p e below P T (mkF m pc Ls (.int n :: st)) := by
  subst hq hty hdv hvs
  obtain ⟨T', h', cA, X', e', E, A, k⟩ := newP X hx hZ w eT (g := mkF m pc Ls (.int n :: st)) rfl hd rfl hn hcap hb hc hl
  exact (K T' h' _ cA rfl X' e' E ((Arv.new A hn).pad (pad_rep [] _ cap))).back k
theorem go_iaload {a : Addr} {k : ClassId} {n j : Int32} {vs : List Value} {dv v : Value} (X : Stand p l e R s m args below meth c T locs cells slots) (hx : p.tables.exec = Jvm.exec) (hZ : Z.Warmed39 s.vm) (eT : T.heap = h) (F : Arv Z h a k .int n vs dv) (hj : ¬ j < 0 ∧ j < n) (hv : vs.getD j.toNatClampNeg dv = v) (hd : decode c.code pc = .ok (.iaload, 1)) (hq : pc + 1 = q) (K : Go p e below P T (mkF m q Ls (v :: st))) : Go p e below P T (mkF m pc Ls (.int j :: .ref a :: st)) := by
  subst hq
  obtain ⟨cl, A, e1, S, nz, H, G⟩ := F
  exact K.back fun t i => X.iaload hx (by rw [eT]; exact A.1) (State.isArrayOf_alike hZ.alike A.2.1) A.2.2 (inb_of S hj) (H.at (inb_of S hj) hv) (g := mkF m pc Ls (.int j :: .ref a :: st)) rfl rfl hd t i
theorem go_caload {a : Addr} {k : ClassId} {n j : Int32} {vs : List Value} {dv v : Value} (X : Stand p l e R s m args below meth c T locs cells slots) (hx : p.tables.exec = Jvm.exec) (hZ : Z.Warmed39 s.vm) (eT : T.heap = h) (F : Arv Z h a k .char n vs dv) (hj : ¬ j < 0 ∧ j < n) (hv : vs.getD j.toNatClampNeg dv = v) (hd : decode c.code pc = .ok (.caload, 1)) (hq : pc + 1 = q) (K : Go p e below P T (mkF m q Ls (v :: st))) : Go p e below P T (mkF m pc Ls (.int j :: .ref a :: st)) := by
  subst hq
  obtain ⟨cl, A, e1, S, nz, H, G⟩ := F
  exact K.back fun t i => X.caload hx (by rw [eT]; exact A.1) (State.isArrayOf_alike hZ.alike A.2.1) A.2.2 (inb_of S hj) (H.at (inb_of S hj) hv) (g := mkF m pc Ls (.int j :: .ref a :: st)) rfl rfl hd t i
theorem go_baload {a : Addr} {k : ClassId} {n j : Int32} {vs : List Value} {dv v : Value} (X : Stand p l e R s m args below meth c T locs cells slots) (hx : p.tables.exec = Jvm.exec) (hZ : Z.Warmed39 s.vm) (eT : T.heap = h) (F : Arv Z h a k .byte n vs dv) (hj : ¬ j < 0 ∧ j < n) (hv : vs.getD j.toNatClampNeg dv = v) (hd : decode c.code pc = .ok (.baload, 1)) (hq : pc + 1 = q) (K : Go p e below P T (mkF m q Ls (v :: st))) : Go p e below P T (mkF m pc Ls (.int j :: .ref a :: st)) := by
  subst hq
  obtain ⟨cl, A, e1, S, nz, H, G⟩ := F
  exact K.back fun t i => X.baloadBytes hx (by rw [eT]; exact A.1) (State.isArrayOf_alike hZ.alike A.2.1) A.2.2 (inb_of S hj) (H.at (inb_of S hj) hv) (g := mkF m pc Ls (.int j :: .ref a :: st)) rfl rfl hd t i
theorem go_daload {a : Addr} {k : ClassId} {n j : Int32} {vs : List Value} {dv v : Value} (X : Stand p l e R s m args below meth c T locs cells slots) (hx : p.tables.exec = Jvm.exec) (hZ : Z.Warmed39 s.vm) (eT : T.heap = h) (F : Arv Z h a k .double n vs dv) (hj : ¬ j < 0 ∧ j < n) (hv : vs.getD j.toNatClampNeg dv = v) (hd : decode c.code pc = .ok (.daload, 1)) (hq : pc + 1 = q) (K : Go p e below P T (mkF m q Ls (v :: st))) : Go p e below P T (mkF m pc Ls (.int j :: .ref a :: st)) := by
  subst hq
  obtain ⟨cl, A, e1, S, nz, H, G⟩ := F
  exact K.back fun t i => X.daload hx (by rw [eT]; exact A.1) (State.isArrayOf_alike hZ.alike A.2.1) A.2.2 (inb_of S hj) (H.at (inb_of S hj) hv) (g := mkF m pc Ls (.int j :: .ref a :: st)) rfl rfl hd t i
theorem go_aaload {a : Addr} {k : ClassId} {ty : FieldType} {n j : Int32} {vs : List Value} {dv v : Value} (X : Stand p l e R s m args below meth c T locs cells slots) (hx : p.tables.exec = Jvm.exec) (hZ : Z.Warmed39 s.vm) (eT : T.heap = h) (F : Arv Z h a k ty n vs dv) (hty : ty.isReference = true) (hj : ¬ j < 0 ∧ j < n) (hv : vs.getD j.toNatClampNeg dv = v) (hd : decode c.code pc = .ok (.aaload, 1)) (hq : pc + 1 = q) (K : Go p e below P T (mkF m q Ls (v :: st))) : Go p e below P T (mkF m pc Ls (.int j :: .ref a :: st)) := by
  subst hq
  obtain ⟨cl, A, e1, S, nz, H, G⟩ := F
  exact K.back fun t i => X.aaload hx (by rw [eT]; exact A.1) (State.isArrayOf_alike hZ.alike A.2.1) hty A.2.2 (inb_of S hj) (H.at (inb_of S hj) hv) (g := mkF m pc Ls (.int j :: .ref a :: st)) rfl rfl hd t i
theorem go_castore {a : Addr} {k : ClassId} {n j x x' : Int32} {i : Nat} {vs vs' : List Value} {dv : Value} (X : Stand p l e R s m args below meth c T locs cells slots) (hx : p.tables.exec = Jvm.exec) (hZ : Z.Warmed39 s.vm) (eT : T.heap = h) (F : Arv Z h a k .char n vs dv) (hj : ¬ j < 0 ∧ j < n) (hi : j.toNatClampNeg = i) (hl : i < vs.length) (hn : nar .char x = x') (hvs : vs.set i (.int x') = vs') (hd : decode c.code pc = .ok (.castore, 1)) (hq : pc + 1 = q)
    (K : ∀ T' h', Stand p l e R s m args below meth c T' (locs ++ [⟨a, j.toNatClampNeg⟩]) cells slots → T'.heap = h' → Wr h h' a j.toNatClampNeg (.int x') → Arv Z h' a k .char n vs' dv → Go p e below P T' (mkF m q Ls st)) : Go p e below P T (mkF m pc Ls (.int x :: .int j :: .ref a :: st)) := by
  subst hq hn hvs
  obtain ⟨cl, A, e1, S, nz, H, G⟩ := F
  obtain ⟨T', h', X', e', W, k⟩ := stC X hx hZ eT A (inb_of S hj) (g := mkF m pc Ls (.int x :: .int j :: .ref a :: st)) rfl rfl hd
  exact (K T' h' X' e' W (Arv.set A e1 S nz H G (fits_nar_char _) W i hi hl)).back k
theorem go_bastore {a : Addr} {k : ClassId} {n j x x' : Int32} {i : Nat} {vs vs' : List Value} {dv : Value} (X : Stand p l e R s m args below meth c T locs cells slots) (hx : p.tables.exec = Jvm.exec) (hZ : Z.Warmed39 s.vm) (eT : T.heap = h) (F : Arv Z h a k .byte n vs dv) (hj : ¬ j < 0 ∧ j < n) (hi : j.toNatClampNeg = i) (hl : i < vs.length) (hn : nar .byte x = x') (hvs : vs.set i (.int x') = vs') (hd : decode c.code pc = .ok (.bastore, 1)) (hq : pc + 1 = q)
    (K : ∀ T' h', Stand p l e R s m args below meth c T' (locs ++ [⟨a, j.toNatClampNeg⟩]) cells slots → T'.heap = h' → Wr h h' a j.toNatClampNeg (.int x') → Arv Z h' a k .byte n vs' dv → Go p e below P T' (mkF m q Ls st)) : Go p e below P T (mkF m pc Ls (.int x :: .int j :: .ref a :: st)) := by
  subst hq hn hvs
  obtain ⟨cl, A, e1, S, nz, H, G⟩ := F
  obtain ⟨T', h', X', e', W, k⟩ := stB X hx hZ eT A (inb_of S hj) (g := mkF m pc Ls (.int x :: .int j :: .ref a :: st)) rfl rfl hd
  exact (K T' h' X' e' W (Arv.set A e1 S nz H G (fits_nar_byte _) W i hi hl)).back k
theorem go_dastore {a : Addr} {k : ClassId} {n j : Int32} {x : UInt64} {i : Nat} {vs vs' : List Value} {dv : Value} (X : Stand p l e R s m args below meth c T locs cells slots) (hx : p.tables.exec = Jvm.exec) (hZ : Z.Warmed39 s.vm) (eT : T.heap = h) (F : Arv Z h a k .double n vs dv) (hj : ¬ j < 0 ∧ j < n) (hi : j.toNatClampNeg = i) (hl : i < vs.length) (hvs : vs.set i (.double x) = vs') (hd : decode c.code pc = .ok (.dastore, 1)) (hq : pc + 1 = q)
    (K : ∀ T' h', Stand p l e R s m args below meth c T' (locs ++ [⟨a, j.toNatClampNeg⟩]) cells slots → T'.heap = h' → Wr h h' a j.toNatClampNeg (.double x) → Arv Z h' a k .double n vs' dv → Go p e below P T' (mkF m q Ls st)) : Go p e below P T (mkF m pc Ls (.double x :: .int j :: .ref a :: st)) := by
  subst hq hvs
  obtain ⟨cl, A, e1, S, nz, H, G⟩ := F
  obtain ⟨T', h', X', e', W, k⟩ := stD X hx hZ eT A (inb_of S hj) (g := mkF m pc Ls (.double x :: .int j :: .ref a :: st)) rfl rfl hd
  exact (K T' h' X' e' W (Arv.set A e1 S nz H G rfl W i hi hl)).back k
variable {y z : MethodName} {bytes : ByteArray} {maxL : Nat} {ret : Option FieldType} {rm : Room} {as' : Array Value} {Qc : Option Value → Heap → List Loc → Prop} {own CL : String} {index W : Nat}
theorem Con.pays {len : Nat} (M : Con l Z y bytes maxL ret rm as' h Qc) (hZ : Z.Warmed39 s.vm) (wc : (Cond.code y bytes maxL ret).before a0 Z = true) (wz : (Cond.initialized y.cls).before a0 Z = true) (hf : rm.frames + 1 ≤ R.frames) (hl : W + (maxL + 11) + rm.locals ≤ R.locals) :
    Back l R p e below s args y len W (fun A a => a = as' ∧ A.U.heap = h ∧ A.cells + rm.cells ≤ R.cells ∧ A.slots + rm.slots ≤ R.slots)
      (fun A _ v B => ∃ L, Qc v B.U.heap L ∧ B.locs = A.locs ++ L ∧ B.cells = A.cells + rm.cells ∧ B.slots = A.slots + rm.slots) := backOf (M []) hZ wc wz hf hl
theorem go_static (X : Stand p l e R s m args below meth c T locs cells slots) (hx : p.tables.exec = Jvm.exec) (hZ : Z.Warmed39 s.vm) (hown : s.vm.findClass own = some m.cls) (w1 : (Cond.methodLink own index y).before a0 Z = true) (w2 : (Cond.static y).before a0 Z = true) (wz : (Cond.initialized y.cls).before a0 Z = true) (wc : (Cond.code y bytes maxL ret).before a0 Z = true) (hy : y.cls ≠ "java/lang/invoke/MethodHandle" ∧ y.cls ≠ "java/lang/invoke/VarHandle")
    (eT : T.heap = h) (M : Con l Z y bytes maxL ret rm as' h Qc) (has : argsL.toArray = as') (hlen : ∀ sig, parseMethodDescriptor y.desc = some sig → argsL.length = sig.parameters.length) (hst : stk = argsL.reverse ++ rest) (hml : Ls.size = c.maxLocals) (hW : (rest.map fun v => v.category).sum ≤ W) (hd : decode c.code pc = .ok (.invokestatic index, 3)) (hf : rm.frames + 1 ≤ R.frames) (hl : W + (maxL + 11) + rm.locals ≤ R.locals) (hc : cells + rm.cells ≤ R.cells) (hs : slots + rm.slots ≤ R.slots) (hq : pc + 3 = q)
    (K : ∀ T' h' v L, Stand p l e R s m args below meth c T' (locs ++ L) (cells + rm.cells) (slots + rm.slots) → T'.heap = h' → Qc v h' L → Go p e below P T' (mkF m q Ls (v.toList ++ rest))) : Go p e below P T (mkF m pc Ls stk) := by
  subst hq
  obtain ⟨v, _, ⟨T', L', k', n'⟩, -, X', ⟨L, hQ, e1, e2, e3⟩, k⟩ := Jvm.LawKit.callS X hx (y := y) hown (mvT hZ w1) (mvT hZ w2) (mvT hZ wz) (mvT hZ wc) hy (M.pays (W := W) hZ wc wz hf hl) (g := mkF m pc Ls stk) rfl hml (argsL := argsL) (rest := rest) hlen hst (by show 2 * 0 + _ ≤ _; omega) hd (fun _ _ => ⟨has, eT, hc, hs⟩)
  dsimp only [Pt.U, Pt.locs, Pt.cells, Pt.slots] at X' e1 e2 e3 k hQ
  subst e1 e2 e3
  exact (K T' _ v L X' rfl hQ).back k
theorem go_special {a : Addr} (X : Stand p l e R s m args below meth c T locs cells slots) (hx : p.tables.exec = Jvm.exec) (hZ : Z.Warmed39 s.vm) (hown : s.vm.findClass own = some m.cls) (hy1 : y.name = "<init>") (w1 : (Cond.methodLink own index y).before a0 Z = true) (w2 : (Cond.instanceMethod y).before a0 Z = true) (wz : (Cond.initialized y.cls).before a0 Z = true) (wc : (Cond.code y bytes maxL none).before a0 Z = true) (hy : y.cls ≠ "java/lang/invoke/MethodHandle" ∧ y.cls ≠ "java/lang/invoke/VarHandle")
    (eT : T.heap = h) (M : Con l Z y bytes maxL none rm as' h Qc) (has : (.ref a :: argsL).toArray = as') (hlen : ∀ sig, parseMethodDescriptor y.desc = some sig → argsL.length = sig.parameters.length) (hst : stk = argsL.reverse ++ .ref a :: rest) (hml : Ls.size = c.maxLocals) (hW : (rest.map fun v => v.category).sum ≤ W) (hd : decode c.code pc = .ok (.invokespecial index, 3)) (hf : rm.frames + 1 ≤ R.frames) (hl : W + (maxL + 11) + rm.locals ≤ R.locals) (hc : cells + rm.cells ≤ R.cells) (hs : slots + rm.slots ≤ R.slots) (hq : pc + 3 = q)
    (K : ∀ T' h' v L, Stand p l e R s m args below meth c T' (locs ++ L) (cells + rm.cells) (slots + rm.slots) → T'.heap = h' → Qc v h' L → Go p e below P T' (mkF m q Ls (v.toList ++ rest))) : Go p e below P T (mkF m pc Ls stk) := by
  subst hq
  obtain ⟨v, _, ⟨T', L', k', n'⟩, -, X', ⟨L, hQ, e1, e2, e3⟩, k⟩ := X.specialBack hx (y := y) hy1 hown (mvT hZ w1) (mvT hZ w2) (mvT hZ wc) hy (M.pays (W := W) hZ wc wz hf hl) (g := mkF m pc Ls stk) rfl hml (Steps.refl _) (a := a) (argsL := argsL) (rest := rest) hlen hst (by show 2 * 0 + _ ≤ _; omega) hd (fun _ _ => ⟨has, eT, hc, hs⟩)
  dsimp only [Pt.U, Pt.locs, Pt.cells, Pt.slots] at X' e1 e2 e3 k hQ
  subst e1 e2 e3
  exact (K T' _ v L X' rfl hQ).back fun _ j => k.trans j
theorem go_virtual {a : Addr} (X : Stand p l e R s m args below meth c T locs cells slots) (hx : p.tables.exec = Jvm.exec) (hZ : Z.Warmed39 s.vm) (hown : s.vm.findClass own = some m.cls) (w1 : (Cond.methodLink own index y).before a0 Z = true) (w2 : (Cond.declares y).before a0 Z = true) (hnf : NotFace s y) (w3 : (Cond.selects CL y z).before a0 Z = true) (w4 : (Cond.instanceMethod z).before a0 Z = true) (wz : (Cond.initialized z.cls).before a0 Z = true) (wc : (Cond.code z bytes maxL ret).before a0 Z = true) (hy : y.cls ≠ "java/lang/invoke/MethodHandle" ∧ y.cls ≠ "java/lang/invoke/VarHandle")
    (eT : T.heap = h) (E : Exa Z h a CL) (M : Con l Z z bytes maxL ret rm as' h Qc) (has : (.ref a :: argsL).toArray = as') (hlen : ∀ sig, parseMethodDescriptor y.desc = some sig → argsL.length = sig.parameters.length) (hst : stk = argsL.reverse ++ .ref a :: rest) (hml : Ls.size = c.maxLocals) (hW : (rest.map fun v => v.category).sum ≤ W) (hd : decode c.code pc = .ok (.invokevirtual index, 3)) (hf : rm.frames + 1 ≤ R.frames) (hl : W + (maxL + 11) + rm.locals ≤ R.locals) (hc : cells + rm.cells ≤ R.cells) (hs : slots + rm.slots ≤ R.slots) (hq : pc + 3 = q)
    (K : ∀ T' h' v L, Stand p l e R s m args below meth c T' (locs ++ L) (cells + rm.cells) (slots + rm.slots) → T'.heap = h' → Qc v h' L → Go p e below P T' (mkF m q Ls (v.toList ++ rest))) : Go p e below P T (mkF m pc Ls stk) := by
  subst hq
  obtain ⟨cq, kq, qa, qb, qc⟩ := isOf hZ eT E
  obtain ⟨v, _, ⟨T', L', k', n'⟩, -, X', ⟨L, hQ, e1, e2, e3⟩, k⟩ := X.virtualBack hx (y := y) (z := z) hown (mvT hZ w1) (mvT hZ w2) hnf (mvT hZ w3) (mvT hZ w4) hy (M.pays (W := W) hZ wc wz hf hl) qa qc (g := mkF m pc Ls stk) rfl hml (Steps.refl _) (argsL := argsL) (rest := rest) hlen hst (by show 2 * 0 + _ ≤ _; omega) hd (fun _ _ => ⟨has, eT, hc, hs⟩)
  dsimp only [Pt.U, Pt.locs, Pt.cells, Pt.slots] at X' e1 e2 e3 k hQ
  subst e1 e2 e3
  exact (K T' _ v L X' rfl hQ).back fun _ j => k.trans j
theorem go_iface {a : Addr} {count : Nat} (X : Stand p l e R s m args below meth c T locs cells slots) (hx : p.tables.exec = Jvm.exec) (hZ : Z.Warmed39 s.vm) (hown : s.vm.findClass own = some m.cls) (w1 : (Cond.methodLink own index y).before a0 Z = true) (w2 : (Cond.declares y).before a0 Z = true) (w5 : (Cond.interfaceMethod y.cls y.cls y.name y.desc).before args s = true) (w3 : (Cond.selects CL y z).before a0 Z = true) (w4 : (Cond.instanceMethod z).before a0 Z = true) (w6 : (Cond.publicMethod z).before a0 Z = true) (w7 : (Cond.unhidden CL y.name y.desc).before a0 Z = true) (w8 : (Cond.castable CL y.cls).before a0 Z = true) (wz : (Cond.initialized z.cls).before a0 Z = true) (wc : (Cond.code z bytes maxL ret).before a0 Z = true) (hy : y.cls ≠ "java/lang/invoke/MethodHandle" ∧ y.cls ≠ "java/lang/invoke/VarHandle")
    (eT : T.heap = h) (E : Exa Z h a CL) (M : Con l Z z bytes maxL ret rm as' h Qc) (has : (.ref a :: argsL).toArray = as') (hlen : ∀ sig, parseMethodDescriptor y.desc = some sig → argsL.length = sig.parameters.length) (hst : stk = argsL.reverse ++ .ref a :: rest) (hml : Ls.size = c.maxLocals) (hW : (rest.map fun v => v.category).sum ≤ W) (hd : decode c.code pc = .ok (.invokeinterface index count, 5)) (hf : rm.frames + 1 ≤ R.frames) (hl : W + (maxL + 11) + rm.locals ≤ R.locals) (hc : cells + rm.cells ≤ R.cells) (hs : slots + rm.slots ≤ R.slots) (hq : pc + 5 = q)
    (K : ∀ T' h' v L, Stand p l e R s m args below meth c T' (locs ++ L) (cells + rm.cells) (slots + rm.slots) → T'.heap = h' → Qc v h' L → Go p e below P T' (mkF m q Ls (v.toList ++ rest))) : Go p e below P T (mkF m pc Ls stk) := by
  subst hq
  obtain ⟨cq, kq, qa, qb, qc⟩ := isOf hZ eT E
  obtain ⟨v, _, ⟨T', L', k', n'⟩, -, X', ⟨L, hQ, e1, e2, e3⟩, k⟩ := X.interfaceBack hx (xi := y) (y := z) hown (mvT hZ w1) (mvT hZ w2) w5 (mvT hZ w3) (mvT hZ w4) (mvT hZ w6) (mvT hZ w7) (mvT hZ w8) hy (M.pays (W := W) hZ wc wz hf hl) qa qb qc (g := mkF m pc Ls stk) rfl hml (Steps.refl _) (argsL := argsL) (rest := rest) hlen hst (by show 2 * 0 + _ ≤ _; omega) hd (fun _ _ => ⟨has, eT, hc, hs⟩)
  dsimp only [Pt.U, Pt.locs, Pt.cells, Pt.slots] at X' e1 e2 e3 k hQ
  subst e1 e2 e3
  exact (K T' _ v L X' rfl hQ).back fun _ j => k.trans j
end OwnKit
theorem own_shr0 (x : Int32) : x >>> ((0 : Int32) &&& 31) = x := by
  rw [show ((0 : Int32) &&& 31) = 0 by decide]; apply Int32.toBitVec_inj.mp; simp
theorem own_shl0 (x : Int32) : x <<< ((0 : Int32) &&& 31) = x := by
  rw [show ((0 : Int32) &&& 31) = 0 by decide]; apply Int32.toBitVec_inj.mp; simp
theorem own_u {x : Int32} (u : UInt16) (h : x = u.toUInt32.toInt32) : x.toUInt32.toUInt16 = u := by subst h; simp
theorem own_toInt16 (u : UInt16) : (u.toUInt32.toInt32).toInt = u.toNat := by
  have hu := u.toNat_lt
  show ((u.toUInt32).toBitVec).toInt = _
  have hm : (u.toUInt32).toBitVec.toNat = u.toNat := by
    show (u.toUInt32).toNat = _
    simp
  rw [BitVec.toInt_eq_toNat_cond, hm, if_pos (by omega)]
theorem own_i2cI (x : Int32) : (x.toUInt32.toUInt16.toUInt32.toInt32).toInt = x.toInt % 65536 := by
  rw [own_toInt16]
  have h1 : (x.toUInt32.toUInt16).toNat = x.toUInt32.toNat % 65536 := by simp
  rw [h1]
  have h2 : x.toUInt32.toNat = x.toBitVec.toNat := rfl
  have h3 : x.toInt = x.toBitVec.toInt := rfl
  rw [h2, h3, BitVec.toInt_eq_toNat_cond]
  have := x.toBitVec.isLt
  split <;> omega
theorem own_i2c {x : Int32} (h : 0 ≤ x.toInt ∧ x.toInt ≤ 65535) : x.toUInt32.toUInt16.toUInt32.toInt32 = x := by
  apply Int32.toInt_inj.mp
  rw [own_i2cI]; omega
theorem own_lo (x : Int32) : (x.toInt8.toInt32 &&& (255 : Int32)).toInt = x.toInt % 256 := by
  rw [Jvm.Kit.i32_mask _ 255 (k := 8) (by decide) (by decide), Int8.toInt_toInt32, Int32.toInt_toInt8]
  generalize x.toInt = y
  simp only [Int.bmod]
  split <;> omega
theorem own_shr8 (x : Int32) : (x >>> ((8 : Int32) &&& 31)).toInt = x.toInt / 256 := by
  rw [Jvm.Kit.i32_shr x _ (k := 8) (by decide), show ((2 : Int) ^ 8) = 256 by decide]
theorem own_or {a b : Int32} (ha : 0 ≤ a.toInt ∧ a.toInt < 256) (hb : 0 ≤ b.toInt ∧ b.toInt < 256) : (a ||| (b <<< ((8 : Int32) &&& 31))).toInt = b.toInt * 256 + a.toInt := by
  rw [shlm (m := 256) (by decide)]
  have nat : ∀ y : Int32, 0 ≤ y.toInt → (y.toBitVec.toNat : Int) = y.toInt := fun y hy => by
    have h1 : y.toInt = y.toBitVec.toInt := rfl
    rw [h1, BitVec.toInt_eq_toNat_cond] at hy ⊢
    have := y.toBitVec.isLt
    split at hy <;> rename_i q
    · rw [if_pos q]
    · omega
  have hc : (b * 256).toInt = b.toInt * 256 := by
    rw [Jvm.Kit.i32_mul (by rw [show (256 : Int32).toInt = 256 by decide]; omega) (by rw [show (256 : Int32).toInt = 256 by decide]; omega), show (256 : Int32).toInt = 256 by decide]
  have ea := nat a ha.1
  have ec := nat (b * 256) (by omega)
  have eb := nat b hb.1
  have hn : (b * 256).toBitVec.toNat = b.toBitVec.toNat * 256 := by omega
  have ho : (a ||| b * 256).toBitVec.toNat = b.toBitVec.toNat * 256 + a.toBitVec.toNat := by
    rw [Int32.toBitVec_or, BitVec.toNat_or, hn, Nat.or_comm]
    have q := Nat.shiftLeft_add_eq_or_of_lt (i := 8) (b := a.toBitVec.toNat) (by omega) b.toBitVec.toNat
    rw [Nat.shiftLeft_eq] at q
    exact q.symm
  have h1 : (a ||| b * 256).toInt = (a ||| b * 256).toBitVec.toInt := rfl
  rw [h1, BitVec.toInt_eq_toNat_cond, ho, if_pos (by omega)]
  omega
theorem own_chr {x : Int32} (h : 0 ≤ x.toInt ∧ x.toInt ≤ 65535) : narrow .char (.int x) = (.int x) ∧ fits .char (.int x) = true := by
  have e := own_i2c h
  have f := fits_nar_char x
  rw [show nar .char x = x from e] at f
  exact ⟨by show Value.int x.toUInt32.toUInt16.toUInt32.toInt32 = _; rw [e], f⟩
theorem own_u16 {x : Int32} (h : 0 ≤ x.toInt ∧ x.toInt ≤ 65535) : ((x.toInt8.toInt32 &&& (255 : Int32)) ||| (((x >>> ((8 : Int32) &&& 31)).toInt8.toInt32 &&& (255 : Int32)) <<< ((8 : Int32) &&& 31))).toUInt32.toUInt16.toUInt32.toInt32 = x := by
  apply Int32.toInt_inj.mp
  have a1 := own_lo x
  have a2 := own_lo (x >>> ((8 : Int32) &&& 31))
  rw [own_shr8] at a2
  rw [own_i2cI, own_or (by omega) (by omega)]
  omega
theorem own_l8 {x : Int32} (h : 0 ≤ x.toInt ∧ x.toInt ≤ 65535) (h2 : ¬ (255 : Int32) < x) : (x.toInt8.toInt32 &&& (255 : Int32)).toUInt32.toUInt16.toUInt32.toInt32 = x := by
  have a1 := own_lo x
  rw [Int32.lt_iff_toInt_lt, show (255 : Int32).toInt = 255 by decide] at h2
  rw [i2c_mask]
  apply Int32.toInt_inj.mp; omega
theorem own_c16 (x : Int32) : 0 ≤ (x &&& (65535 : Int32)).toInt ∧ (x &&& (65535 : Int32)).toInt ≤ 65535 := by
  have h := Jvm.Kit.i32_mask x 65535 (k := 16) (by decide) (by decide)
  omega
theorem own_c12 (x : Int32) : 0 ≤ ((47 : Int32) + ((x &&& (65535 : Int32)) % (12 : Int32))).toInt ∧ ((47 : Int32) + ((x &&& (65535 : Int32)) % (12 : Int32))).toInt ≤ 65535 := by
  have h := own_c16 x
  have h2 := Jvm.Kit.i32_rem_nonneg (x := x &&& 65535) (y := 12) (by omega)
  rw [show (12 : Int32).toInt = 12 by decide] at h2
  have h3 : (47 : Int32).toInt = 47 := by decide
  rw [Jvm.Kit.i32_add (by omega) (by omega)]; omega
theorem own_f5 (x : Int32) : ((x &&& (7 : Int32)) % (5 : Int32)) = 0 ∨ ((x &&& (7 : Int32)) % (5 : Int32)) = 1 ∨ ((x &&& (7 : Int32)) % (5 : Int32)) = 2 ∨ ((x &&& (7 : Int32)) % (5 : Int32)) = 3 ∨ ((x &&& (7 : Int32)) % (5 : Int32)) = 4 := by
  have h := Jvm.Kit.i32_mask x 7 (k := 3) (by decide) (by decide)
  have h2 := Jvm.Kit.i32_rem_nonneg (x := x &&& 7) (y := 5) (by omega)
  rw [show (5 : Int32).toInt = 5 by decide] at h2
  have h1 : ((x &&& 7) % 5).toInt = 0 ∨ ((x &&& 7) % 5).toInt = 1 ∨ ((x &&& 7) % 5).toInt = 2 ∨ ((x &&& 7) % 5).toInt = 3 ∨ ((x &&& 7) % 5).toInt = 4 := by omega
  rcases h1 with e | e | e | e | e
  · exact Or.inl (Int32.toInt_inj.mp e)
  · exact Or.inr (Or.inl (Int32.toInt_inj.mp e))
  · exact Or.inr (Or.inr (Or.inl (Int32.toInt_inj.mp e)))
  · exact Or.inr (Or.inr (Or.inr (Or.inl (Int32.toInt_inj.mp e))))
  · exact Or.inr (Or.inr (Or.inr (Or.inr (Int32.toInt_inj.mp e))))
theorem own_t5 (x : Int32) : (((XT.ushr x (3 : Int32)) &&& (7 : Int32)) % (5 : Int32)) = 0 ∨ (((XT.ushr x (3 : Int32)) &&& (7 : Int32)) % (5 : Int32)) = 1 ∨ (((XT.ushr x (3 : Int32)) &&& (7 : Int32)) % (5 : Int32)) = 2 ∨ (((XT.ushr x (3 : Int32)) &&& (7 : Int32)) % (5 : Int32)) = 3 ∨ (((XT.ushr x (3 : Int32)) &&& (7 : Int32)) % (5 : Int32)) = 4 := own_f5 _
def Str4 (Z : State) (h : Heap) (a : Addr) (x0 x1 x2 x3 : Int32) : Prop := ∃ (b : Addr) (kb : ClassId), Exa Z h a "java/lang/String" ∧ Fld Z h a "java/lang/String" "value" "[B" (.ref b) ∧
  ((Fld Z h a "java/lang/String" "coder" "B" (.int (0 : Int32)) ∧ Arv Z h b kb .byte (4 : Int32) [(.int x0.toInt8.toInt32), (.int x1.toInt8.toInt32), (.int x2.toInt8.toInt32), (.int x3.toInt8.toInt32)] (.int (0 : Int32)) ∧ ¬ (255 : Int32) < x0 ∧ ¬ (255 : Int32) < x1 ∧ ¬ (255 : Int32) < x2 ∧ ¬ (255 : Int32) < x3) ∨
   (Fld Z h a "java/lang/String" "coder" "B" (.int (1 : Int32)) ∧ Arv Z h b kb .byte (8 : Int32) [(.int x0.toInt8.toInt32), (.int (x0 >>> ((8 : Int32) &&& 31)).toInt8.toInt32), (.int x1.toInt8.toInt32), (.int (x1 >>> ((8 : Int32) &&& 31)).toInt8.toInt32), (.int x2.toInt8.toInt32), (.int (x2 >>> ((8 : Int32) &&& 31)).toInt8.toInt32), (.int x3.toInt8.toInt32), (.int (x3 >>> ((8 : Int32) &&& 31)).toInt8.toInt32)] (.int (0 : Int32))))
theorem Str4.keep {Z : State} {h h' : Heap} {a : Addr} {x0 x1 x2 x3 : Int32} (F : Str4 Z h a x0 x1 x2 x3) (K : Keep h h' []) : Str4 Z h' a x0 x1 x2 x3 := by
  obtain ⟨b, kb, E, V, H⟩ := F
  refine ⟨b, kb, E.keep K, V.keep K nin0, ?_⟩
  rcases H with ⟨C0, A0, r⟩ | ⟨C0, A0⟩
  · exact Or.inl ⟨C0.keep K nin0, A0.keep K nin0, r⟩
  · exact Or.inr ⟨C0.keep K nin0, A0.keep K nin0⟩
theorem d1_0 : decode method_2_code 0 = .ok (.iload_n 0, 1) := by decide +kernel
theorem d1_1 : decode method_2_code 1 = .ok (.bipush 16, 2) := by decide +kernel
theorem d1_3 : decode method_2_code 3 = .ok (.iushr, 1) := by decide +kernel
theorem d1_4 : decode method_2_code 4 = .ok (.iconst 1, 1) := by decide +kernel
theorem d1_5 : decode method_2_code 5 = .ok (.iand, 1) := by decide +kernel
theorem d1_6 : decode method_2_code 6 = .ok (.ifCond .eq 15, 3) := by decide +kernel
theorem d1_9 : decode method_2_code 9 = .ok (.bipush 47, 2) := by decide +kernel
theorem d1_11 : decode method_2_code 11 = .ok (.iload_n 0, 1) := by decide +kernel
theorem d1_12 : decode method_2_code 12 = .ok (.ldc 7, 2) := by decide +kernel
theorem d1_14 : decode method_2_code 14 = .ok (.iand, 1) := by decide +kernel
theorem d1_15 : decode method_2_code 15 = .ok (.bipush 12, 2) := by decide +kernel
theorem d1_17 : decode method_2_code 17 = .ok (.irem, 1) := by decide +kernel
theorem d1_18 : decode method_2_code 18 = .ok (.iadd, 1) := by decide +kernel
theorem d1_19 : decode method_2_code 19 = .ok (.i2c, 1) := by decide +kernel
theorem d1_20 : decode method_2_code 20 = .ok (.ireturn, 1) := by decide +kernel
theorem d1_21 : decode method_2_code 21 = .ok (.iload_n 0, 1) := by decide +kernel
theorem d1_22 : decode method_2_code 22 = .ok (.ldc 7, 2) := by decide +kernel
theorem d1_24 : decode method_2_code 24 = .ok (.iand, 1) := by decide +kernel
theorem d1_25 : decode method_2_code 25 = .ok (.i2c, 1) := by decide +kernel
theorem d1_26 : decode method_2_code 26 = .ok (.ireturn, 1) := by decide +kernel
theorem d2_0 : decode jdk_42_method_3_code 0 = .ok (.aload_n 0, 1) := by decide +kernel
theorem d2_1 : decode jdk_42_method_3_code 1 = .ok (.aload_n 1, 1) := by decide +kernel
theorem d2_2 : decode jdk_42_method_3_code 2 = .ok (.iconst 0, 1) := by decide +kernel
theorem d2_3 : decode jdk_42_method_3_code 3 = .ok (.aload_n 1, 1) := by decide +kernel
theorem d2_4 : decode jdk_42_method_3_code 4 = .ok (.arraylength, 1) := by decide +kernel
theorem d2_5 : decode jdk_42_method_3_code 5 = .ok (.aconst_null, 1) := by decide +kernel
theorem d2_6 : decode jdk_42_method_3_code 6 = .ok (.invokespecial 27, 3) := by decide +kernel
theorem d2_9 : decode jdk_42_method_3_code 9 = .ok (.return_, 1) := by decide +kernel
theorem d3_0 : decode jdk_42_method_149_code 0 = .ok (.aload_n 0, 1) := by decide +kernel
theorem d3_1 : decode jdk_42_method_149_code 1 = .ok (.invokespecial 1, 3) := by decide +kernel
theorem d3_4 : decode jdk_42_method_149_code 4 = .ok (.iload_n 3, 1) := by decide +kernel
theorem d3_5 : decode jdk_42_method_149_code 5 = .ok (.ifCond .ne 22, 3) := by decide +kernel
theorem d3_27 : decode jdk_42_method_149_code 27 = .ok (.getstatic 38, 3) := by decide +kernel
theorem d3_30 : decode jdk_42_method_149_code 30 = .ok (.ifCond .eq 28, 3) := by decide +kernel
theorem d3_33 : decode jdk_42_method_149_code 33 = .ok (.aload_n 1, 1) := by decide +kernel
theorem d3_34 : decode jdk_42_method_149_code 34 = .ok (.iload_n 2, 1) := by decide +kernel
theorem d3_35 : decode jdk_42_method_149_code 35 = .ok (.iload_n 3, 1) := by decide +kernel
theorem d3_36 : decode jdk_42_method_149_code 36 = .ok (.invokestatic 177, 3) := by decide +kernel
theorem d3_39 : decode jdk_42_method_149_code 39 = .ok (.astore 5, 2) := by decide +kernel
theorem d3_41 : decode jdk_42_method_149_code 41 = .ok (.aload_n 0, 1) := by decide +kernel
theorem d3_42 : decode jdk_42_method_149_code 42 = .ok (.aload 5, 2) := by decide +kernel
theorem d3_44 : decode jdk_42_method_149_code 44 = .ok (.iload_n 3, 1) := by decide +kernel
theorem d3_45 : decode jdk_42_method_149_code 45 = .ok (.invokestatic 47, 3) := by decide +kernel
theorem d3_48 : decode jdk_42_method_149_code 48 = .ok (.putfield 15, 3) := by decide +kernel
theorem d3_51 : decode jdk_42_method_149_code 51 = .ok (.aload_n 0, 1) := by decide +kernel
theorem d3_52 : decode jdk_42_method_149_code 52 = .ok (.aload 5, 2) := by decide +kernel
theorem d3_54 : decode jdk_42_method_149_code 54 = .ok (.putfield 9, 3) := by decide +kernel
theorem d3_57 : decode jdk_42_method_149_code 57 = .ok (.return_, 1) := by decide +kernel
theorem d5_0 : decode jdk_52_method_16_code 0 = .ok (.iload_n 2, 1) := by decide +kernel
theorem d5_1 : decode jdk_52_method_16_code 1 = .ok (.newarray .byte, 2) := by decide +kernel
theorem d5_3 : decode jdk_52_method_16_code 3 = .ok (.astore_n 3, 1) := by decide +kernel
theorem d5_4 : decode jdk_52_method_16_code 4 = .ok (.aload_n 0, 1) := by decide +kernel
theorem d5_5 : decode jdk_52_method_16_code 5 = .ok (.iload_n 1, 1) := by decide +kernel
theorem d5_6 : decode jdk_52_method_16_code 6 = .ok (.aload_n 3, 1) := by decide +kernel
theorem d5_7 : decode jdk_52_method_16_code 7 = .ok (.iconst 0, 1) := by decide +kernel
theorem d5_8 : decode jdk_52_method_16_code 8 = .ok (.iload_n 2, 1) := by decide +kernel
theorem d5_9 : decode jdk_52_method_16_code 9 = .ok (.invokestatic 115, 3) := by decide +kernel
theorem d5_12 : decode jdk_52_method_16_code 12 = .ok (.istore 4, 2) := by decide +kernel
theorem d5_14 : decode jdk_52_method_16_code 14 = .ok (.iload 4, 2) := by decide +kernel
theorem d5_16 : decode jdk_52_method_16_code 16 = .ok (.iload_n 2, 1) := by decide +kernel
theorem d5_17 : decode jdk_52_method_16_code 17 = .ok (.if_icmp .eq 40, 3) := by decide +kernel
theorem d5_20 : decode jdk_52_method_16_code 20 = .ok (.aload_n 0, 1) := by decide +kernel
theorem d5_21 : decode jdk_52_method_16_code 21 = .ok (.iload_n 1, 1) := by decide +kernel
theorem d5_22 : decode jdk_52_method_16_code 22 = .ok (.iload_n 2, 1) := by decide +kernel
theorem d5_23 : decode jdk_52_method_16_code 23 = .ok (.invokestatic 119, 3) := by decide +kernel
theorem d5_26 : decode jdk_52_method_16_code 26 = .ok (.astore 5, 2) := by decide +kernel
theorem d5_28 : decode jdk_52_method_16_code 28 = .ok (.aload 5, 2) := by decide +kernel
theorem d5_30 : decode jdk_52_method_16_code 30 = .ok (.iload 4, 2) := by decide +kernel
theorem d5_32 : decode jdk_52_method_16_code 32 = .ok (.invokestatic 71, 3) := by decide +kernel
theorem d5_35 : decode jdk_52_method_16_code 35 = .ok (.sipush 255, 3) := by decide +kernel
theorem d5_38 : decode jdk_52_method_16_code 38 = .ok (.if_icmp .gt 16, 3) := by decide +kernel
theorem d5_54 : decode jdk_52_method_16_code 54 = .ok (.aload 5, 2) := by decide +kernel
theorem d5_56 : decode jdk_52_method_16_code 56 = .ok (.areturn, 1) := by decide +kernel
theorem d5_57 : decode jdk_52_method_16_code 57 = .ok (.aload_n 3, 1) := by decide +kernel
theorem d5_58 : decode jdk_52_method_16_code 58 = .ok (.areturn, 1) := by decide +kernel
theorem d6_0 : decode jdk_52_method_21_code 0 = .ok (.iconst 0, 1) := by decide +kernel
theorem d6_1 : decode jdk_52_method_21_code 1 = .ok (.istore 5, 2) := by decide +kernel
theorem d6_3 : decode jdk_52_method_21_code 3 = .ok (.iload 5, 2) := by decide +kernel
theorem d6_5 : decode jdk_52_method_21_code 5 = .ok (.iload 4, 2) := by decide +kernel
theorem d6_7 : decode jdk_52_method_21_code 7 = .ok (.if_icmp .ge 37, 3) := by decide +kernel
theorem d6_10 : decode jdk_52_method_21_code 10 = .ok (.aload_n 0, 1) := by decide +kernel
theorem d6_11 : decode jdk_52_method_21_code 11 = .ok (.iload_n 1, 1) := by decide +kernel
theorem d6_12 : decode jdk_52_method_21_code 12 = .ok (.caload, 1) := by decide +kernel
theorem d6_13 : decode jdk_52_method_21_code 13 = .ok (.istore 6, 2) := by decide +kernel
theorem d6_15 : decode jdk_52_method_21_code 15 = .ok (.iload 6, 2) := by decide +kernel
theorem d6_17 : decode jdk_52_method_21_code 17 = .ok (.sipush 255, 3) := by decide +kernel
theorem d6_20 : decode jdk_52_method_21_code 20 = .ok (.if_icmp .le 6, 3) := by decide +kernel
theorem d6_23 : decode jdk_52_method_21_code 23 = .ok (.iload 5, 2) := by decide +kernel
theorem d6_25 : decode jdk_52_method_21_code 25 = .ok (.ireturn, 1) := by decide +kernel
theorem d6_26 : decode jdk_52_method_21_code 26 = .ok (.aload_n 2, 1) := by decide +kernel
theorem d6_27 : decode jdk_52_method_21_code 27 = .ok (.iload_n 3, 1) := by decide +kernel
theorem d6_28 : decode jdk_52_method_21_code 28 = .ok (.iload 6, 2) := by decide +kernel
theorem d6_30 : decode jdk_52_method_21_code 30 = .ok (.i2b, 1) := by decide +kernel
theorem d6_31 : decode jdk_52_method_21_code 31 = .ok (.bastore, 1) := by decide +kernel
theorem d6_32 : decode jdk_52_method_21_code 32 = .ok (.iinc 1 1, 3) := by decide +kernel
theorem d6_35 : decode jdk_52_method_21_code 35 = .ok (.iinc 3 1, 3) := by decide +kernel
theorem d6_38 : decode jdk_52_method_21_code 38 = .ok (.iinc 5 1, 3) := by decide +kernel
theorem d6_41 : decode jdk_52_method_21_code 41 = .ok (.goto (-38), 3) := by decide +kernel
theorem d6_44 : decode jdk_52_method_21_code 44 = .ok (.iload 4, 2) := by decide +kernel
theorem d6_46 : decode jdk_52_method_21_code 46 = .ok (.ireturn, 1) := by decide +kernel
theorem d7_0 : decode jdk_52_method_15_code 0 = .ok (.iload_n 1, 1) := by decide +kernel
theorem d7_1 : decode jdk_52_method_15_code 1 = .ok (.aload_n 0, 1) := by decide +kernel
theorem d7_2 : decode jdk_52_method_15_code 2 = .ok (.arraylength, 1) := by decide +kernel
theorem d7_3 : decode jdk_52_method_15_code 3 = .ok (.isub, 1) := by decide +kernel
theorem d7_4 : decode jdk_52_method_15_code 4 = .ok (.bipush 31, 2) := by decide +kernel
theorem d7_6 : decode jdk_52_method_15_code 6 = .ok (.iushr, 1) := by decide +kernel
theorem d7_7 : decode jdk_52_method_15_code 7 = .ok (.i2b, 1) := by decide +kernel
theorem d7_8 : decode jdk_52_method_15_code 8 = .ok (.ireturn, 1) := by decide +kernel
theorem d8_0 : decode prog_21_method_11_code 0 = .ok (.iload_n 1, 1) := by decide +kernel
theorem d8_1 : decode prog_21_method_11_code 1 = .ok (.iload_n 2, 1) := by decide +kernel
theorem d8_2 : decode prog_21_method_11_code 2 = .ok (.if_icmp .lt 5, 3) := by decide +kernel
theorem d8_5 : decode prog_21_method_11_code 5 = .ok (.iconst 0, 1) := by decide +kernel
theorem d8_6 : decode prog_21_method_11_code 6 = .ok (.ireturn, 1) := by decide +kernel
theorem d8_7 : decode prog_21_method_11_code 7 = .ok (.iload_n 1, 1) := by decide +kernel
theorem d8_8 : decode prog_21_method_11_code 8 = .ok (.istore_n 3, 1) := by decide +kernel
theorem d8_9 : decode prog_21_method_11_code 9 = .ok (.iload_n 3, 1) := by decide +kernel
theorem d8_10 : decode prog_21_method_11_code 10 = .ok (.iload_n 2, 1) := by decide +kernel
theorem d8_11 : decode prog_21_method_11_code 11 = .ok (.if_icmp .ge 32, 3) := by decide +kernel
theorem d8_14 : decode prog_21_method_11_code 14 = .ok (.aload_n 0, 1) := by decide +kernel
theorem d8_15 : decode prog_21_method_11_code 15 = .ok (.iload_n 3, 1) := by decide +kernel
theorem d8_16 : decode prog_21_method_11_code 16 = .ok (.invokevirtual 106, 3) := by decide +kernel
theorem d8_19 : decode prog_21_method_11_code 19 = .ok (.istore 4, 2) := by decide +kernel
theorem d8_21 : decode prog_21_method_11_code 21 = .ok (.iload 4, 2) := by decide +kernel
theorem d8_23 : decode prog_21_method_11_code 23 = .ok (.bipush 48, 2) := by decide +kernel
theorem d8_25 : decode prog_21_method_11_code 25 = .ok (.if_icmp .lt 10, 3) := by decide +kernel
theorem d8_28 : decode prog_21_method_11_code 28 = .ok (.iload 4, 2) := by decide +kernel
theorem d8_30 : decode prog_21_method_11_code 30 = .ok (.bipush 57, 2) := by decide +kernel
theorem d8_32 : decode prog_21_method_11_code 32 = .ok (.if_icmp .le 5, 3) := by decide +kernel
theorem d8_35 : decode prog_21_method_11_code 35 = .ok (.iconst 0, 1) := by decide +kernel
theorem d8_36 : decode prog_21_method_11_code 36 = .ok (.ireturn, 1) := by decide +kernel
theorem d8_37 : decode prog_21_method_11_code 37 = .ok (.iinc 3 1, 3) := by decide +kernel
theorem d8_40 : decode prog_21_method_11_code 40 = .ok (.goto (-31), 3) := by decide +kernel
theorem d8_43 : decode prog_21_method_11_code 43 = .ok (.iconst 1, 1) := by decide +kernel
theorem d8_44 : decode prog_21_method_11_code 44 = .ok (.ireturn, 1) := by decide +kernel
theorem d9_0 : decode jdk_52_method_14_code 0 = .ok (.iload_n 2, 1) := by decide +kernel
theorem d9_1 : decode jdk_52_method_14_code 1 = .ok (.invokestatic 107, 3) := by decide +kernel
theorem d9_4 : decode jdk_52_method_14_code 4 = .ok (.astore_n 3, 1) := by decide +kernel
theorem d9_5 : decode jdk_52_method_14_code 5 = .ok (.iconst 0, 1) := by decide +kernel
theorem d9_6 : decode jdk_52_method_14_code 6 = .ok (.istore 4, 2) := by decide +kernel
theorem d9_8 : decode jdk_52_method_14_code 8 = .ok (.iload 4, 2) := by decide +kernel
theorem d9_10 : decode jdk_52_method_14_code 10 = .ok (.iload_n 2, 1) := by decide +kernel
theorem d9_11 : decode jdk_52_method_14_code 11 = .ok (.if_icmp .ge 21, 3) := by decide +kernel
theorem d9_14 : decode jdk_52_method_14_code 14 = .ok (.aload_n 3, 1) := by decide +kernel
theorem d9_15 : decode jdk_52_method_14_code 15 = .ok (.iload 4, 2) := by decide +kernel
theorem d9_17 : decode jdk_52_method_14_code 17 = .ok (.aload_n 0, 1) := by decide +kernel
theorem d9_18 : decode jdk_52_method_14_code 18 = .ok (.iload_n 1, 1) := by decide +kernel
theorem d9_19 : decode jdk_52_method_14_code 19 = .ok (.caload, 1) := by decide +kernel
theorem d9_20 : decode jdk_52_method_14_code 20 = .ok (.invokestatic 111, 3) := by decide +kernel
theorem d9_23 : decode jdk_52_method_14_code 23 = .ok (.iinc 1 1, 3) := by decide +kernel
theorem d9_26 : decode jdk_52_method_14_code 26 = .ok (.iinc 4 1, 3) := by decide +kernel
theorem d9_29 : decode jdk_52_method_14_code 29 = .ok (.goto (-21), 3) := by decide +kernel
theorem d9_32 : decode jdk_52_method_14_code 32 = .ok (.aload_n 3, 1) := by decide +kernel
theorem d9_33 : decode jdk_52_method_14_code 33 = .ok (.areturn, 1) := by decide +kernel
theorem d10_0 : decode jdk_52_method_2_code 0 = .ok (.iload_n 0, 1) := by decide +kernel
theorem d10_1 : decode jdk_52_method_2_code 1 = .ok (.invokestatic 11, 3) := by decide +kernel
theorem d10_4 : decode jdk_52_method_2_code 4 = .ok (.newarray .byte, 2) := by decide +kernel
theorem d10_6 : decode jdk_52_method_2_code 6 = .ok (.areturn, 1) := by decide +kernel
theorem d11_0 : decode jdk_52_method_3_code 0 = .ok (.iload_n 0, 1) := by decide +kernel
theorem d11_1 : decode jdk_52_method_3_code 1 = .ok (.ifCond .ge 11, 3) := by decide +kernel
theorem d11_12 : decode jdk_52_method_3_code 12 = .ok (.iload_n 0, 1) := by decide +kernel
theorem d11_13 : decode jdk_52_method_3_code 13 = .ok (.ldc 20, 2) := by decide +kernel
theorem d11_15 : decode jdk_52_method_3_code 15 = .ok (.if_icmp .lt 40, 3) := by decide +kernel
theorem d11_55 : decode jdk_52_method_3_code 55 = .ok (.iload_n 0, 1) := by decide +kernel
theorem d11_56 : decode jdk_52_method_3_code 56 = .ok (.iconst 1, 1) := by decide +kernel
theorem d11_57 : decode jdk_52_method_3_code 57 = .ok (.ishl, 1) := by decide +kernel
theorem d11_58 : decode jdk_52_method_3_code 58 = .ok (.ireturn, 1) := by decide +kernel
theorem d12_0 : decode jdk_52_method_4_code 0 = .ok (.getstatic 44, 3) := by decide +kernel
theorem d12_3 : decode jdk_52_method_4_code 3 = .ok (.ifCond .ne 25, 3) := by decide +kernel
theorem d12_28 : decode jdk_52_method_4_code 28 = .ok (.iload_n 1, 1) := by decide +kernel
theorem d12_29 : decode jdk_52_method_4_code 29 = .ok (.iconst 1, 1) := by decide +kernel
theorem d12_30 : decode jdk_52_method_4_code 30 = .ok (.ishl, 1) := by decide +kernel
theorem d12_31 : decode jdk_52_method_4_code 31 = .ok (.istore_n 1, 1) := by decide +kernel
theorem d12_32 : decode jdk_52_method_4_code 32 = .ok (.aload_n 0, 1) := by decide +kernel
theorem d12_33 : decode jdk_52_method_4_code 33 = .ok (.iload_n 1, 1) := by decide +kernel
theorem d12_34 : decode jdk_52_method_4_code 34 = .ok (.iinc 1 1, 3) := by decide +kernel
theorem d12_37 : decode jdk_52_method_4_code 37 = .ok (.iload_n 2, 1) := by decide +kernel
theorem d12_38 : decode jdk_52_method_4_code 38 = .ok (.getstatic 59, 3) := by decide +kernel
theorem d12_41 : decode jdk_52_method_4_code 41 = .ok (.ishr, 1) := by decide +kernel
theorem d12_42 : decode jdk_52_method_4_code 42 = .ok (.i2b, 1) := by decide +kernel
theorem d12_43 : decode jdk_52_method_4_code 43 = .ok (.bastore, 1) := by decide +kernel
theorem d12_44 : decode jdk_52_method_4_code 44 = .ok (.aload_n 0, 1) := by decide +kernel
theorem d12_45 : decode jdk_52_method_4_code 45 = .ok (.iload_n 1, 1) := by decide +kernel
theorem d12_46 : decode jdk_52_method_4_code 46 = .ok (.iload_n 2, 1) := by decide +kernel
theorem d12_47 : decode jdk_52_method_4_code 47 = .ok (.getstatic 63, 3) := by decide +kernel
theorem d12_50 : decode jdk_52_method_4_code 50 = .ok (.ishr, 1) := by decide +kernel
theorem d12_51 : decode jdk_52_method_4_code 51 = .ok (.i2b, 1) := by decide +kernel
theorem d12_52 : decode jdk_52_method_4_code 52 = .ok (.bastore, 1) := by decide +kernel
theorem d12_53 : decode jdk_52_method_4_code 53 = .ok (.return_, 1) := by decide +kernel
theorem d13_0 : decode jdk_52_method_5_code 0 = .ok (.getstatic 44, 3) := by decide +kernel
theorem d13_3 : decode jdk_52_method_5_code 3 = .ok (.ifCond .ne 25, 3) := by decide +kernel
theorem d13_28 : decode jdk_52_method_5_code 28 = .ok (.iload_n 1, 1) := by decide +kernel
theorem d13_29 : decode jdk_52_method_5_code 29 = .ok (.iconst 1, 1) := by decide +kernel
theorem d13_30 : decode jdk_52_method_5_code 30 = .ok (.ishl, 1) := by decide +kernel
theorem d13_31 : decode jdk_52_method_5_code 31 = .ok (.istore_n 1, 1) := by decide +kernel
theorem d13_32 : decode jdk_52_method_5_code 32 = .ok (.aload_n 0, 1) := by decide +kernel
theorem d13_33 : decode jdk_52_method_5_code 33 = .ok (.iload_n 1, 1) := by decide +kernel
theorem d13_34 : decode jdk_52_method_5_code 34 = .ok (.iinc 1 1, 3) := by decide +kernel
theorem d13_37 : decode jdk_52_method_5_code 37 = .ok (.baload, 1) := by decide +kernel
theorem d13_38 : decode jdk_52_method_5_code 38 = .ok (.sipush 255, 3) := by decide +kernel
theorem d13_41 : decode jdk_52_method_5_code 41 = .ok (.iand, 1) := by decide +kernel
theorem d13_42 : decode jdk_52_method_5_code 42 = .ok (.getstatic 59, 3) := by decide +kernel
theorem d13_45 : decode jdk_52_method_5_code 45 = .ok (.ishl, 1) := by decide +kernel
theorem d13_46 : decode jdk_52_method_5_code 46 = .ok (.aload_n 0, 1) := by decide +kernel
theorem d13_47 : decode jdk_52_method_5_code 47 = .ok (.iload_n 1, 1) := by decide +kernel
theorem d13_48 : decode jdk_52_method_5_code 48 = .ok (.baload, 1) := by decide +kernel
theorem d13_49 : decode jdk_52_method_5_code 49 = .ok (.sipush 255, 3) := by decide +kernel
theorem d13_52 : decode jdk_52_method_5_code 52 = .ok (.iand, 1) := by decide +kernel
theorem d13_53 : decode jdk_52_method_5_code 53 = .ok (.getstatic 63, 3) := by decide +kernel
theorem d13_56 : decode jdk_52_method_5_code 56 = .ok (.ishl, 1) := by decide +kernel
theorem d13_57 : decode jdk_52_method_5_code 57 = .ok (.ior, 1) := by decide +kernel
theorem d13_58 : decode jdk_52_method_5_code 58 = .ok (.i2c, 1) := by decide +kernel
theorem d13_59 : decode jdk_52_method_5_code 59 = .ok (.ireturn, 1) := by decide +kernel
theorem d14_0 : decode method_3_code 0 = .ok (.iload_n 1, 1) := by decide +kernel
theorem d14_1 : decode method_3_code 1 = .ok (.iload_n 2, 1) := by decide +kernel
theorem d14_2 : decode method_3_code 2 = .ok (.if_icmp .lt 20, 3) := by decide +kernel
theorem d14_5 : decode method_3_code 5 = .ok (.iload_n 1, 1) := by decide +kernel
theorem d14_6 : decode method_3_code 6 = .ok (.iload_n 3, 1) := by decide +kernel
theorem d14_7 : decode method_3_code 7 = .ok (.if_icmp .ge 15, 3) := by decide +kernel
theorem d14_10 : decode method_3_code 10 = .ok (.iload_n 0, 1) := by decide +kernel
theorem d14_11 : decode method_3_code 11 = .ok (.bipush 48, 2) := by decide +kernel
theorem d14_13 : decode method_3_code 13 = .ok (.if_icmp .lt 13, 3) := by decide +kernel
theorem d14_16 : decode method_3_code 16 = .ok (.iload_n 0, 1) := by decide +kernel
theorem d14_17 : decode method_3_code 17 = .ok (.bipush 57, 2) := by decide +kernel
theorem d14_19 : decode method_3_code 19 = .ok (.if_icmp .gt 7, 3) := by decide +kernel
theorem d14_22 : decode method_3_code 22 = .ok (.iconst 1, 1) := by decide +kernel
theorem d14_23 : decode method_3_code 23 = .ok (.goto 4, 3) := by decide +kernel
theorem d14_26 : decode method_3_code 26 = .ok (.iconst 0, 1) := by decide +kernel
theorem d14_27 : decode method_3_code 27 = .ok (.ireturn, 1) := by decide +kernel
theorem d15_0 : decode jdk_42_method_56_code 0 = .ok (.aload_n 0, 1) := by decide +kernel
theorem d15_1 : decode jdk_42_method_56_code 1 = .ok (.invokevirtual 492, 3) := by decide +kernel
theorem d15_4 : decode jdk_42_method_56_code 4 = .ok (.ifCond .eq 12, 3) := by decide +kernel
theorem d15_7 : decode jdk_42_method_56_code 7 = .ok (.aload_n 0, 1) := by decide +kernel
theorem d15_8 : decode jdk_42_method_56_code 8 = .ok (.getfield 9, 3) := by decide +kernel
theorem d15_11 : decode jdk_42_method_56_code 11 = .ok (.iload_n 1, 1) := by decide +kernel
theorem d15_12 : decode jdk_42_method_56_code 12 = .ok (.invokestatic 495, 3) := by decide +kernel
theorem d15_15 : decode jdk_42_method_56_code 15 = .ok (.ireturn, 1) := by decide +kernel
theorem d15_16 : decode jdk_42_method_56_code 16 = .ok (.aload_n 0, 1) := by decide +kernel
theorem d15_17 : decode jdk_42_method_56_code 17 = .ok (.getfield 9, 3) := by decide +kernel
theorem d15_20 : decode jdk_42_method_56_code 20 = .ok (.iload_n 1, 1) := by decide +kernel
theorem d15_21 : decode jdk_42_method_56_code 21 = .ok (.invokestatic 498, 3) := by decide +kernel
theorem d15_24 : decode jdk_42_method_56_code 24 = .ok (.ireturn, 1) := by decide +kernel
theorem d16_0 : decode jdk_42_method_154_code 0 = .ok (.getstatic 38, 3) := by decide +kernel
theorem d16_3 : decode jdk_42_method_154_code 3 = .ok (.ifCond .eq 14, 3) := by decide +kernel
theorem d16_6 : decode jdk_42_method_154_code 6 = .ok (.aload_n 0, 1) := by decide +kernel
theorem d16_7 : decode jdk_42_method_154_code 7 = .ok (.getfield 15, 3) := by decide +kernel
theorem d16_10 : decode jdk_42_method_154_code 10 = .ok (.ifCond .ne 7, 3) := by decide +kernel
theorem d16_13 : decode jdk_42_method_154_code 13 = .ok (.iconst 1, 1) := by decide +kernel
theorem d16_14 : decode jdk_42_method_154_code 14 = .ok (.goto 4, 3) := by decide +kernel
theorem d16_17 : decode jdk_42_method_154_code 17 = .ok (.iconst 0, 1) := by decide +kernel
theorem d16_18 : decode jdk_42_method_154_code 18 = .ok (.ireturn, 1) := by decide +kernel
theorem d17_0 : decode jdk_43_method_2_code 0 = .ok (.iload_n 1, 1) := by decide +kernel
theorem d17_1 : decode jdk_43_method_2_code 1 = .ok (.aload_n 0, 1) := by decide +kernel
theorem d17_2 : decode jdk_43_method_2_code 2 = .ok (.arraylength, 1) := by decide +kernel
theorem d17_3 : decode jdk_43_method_2_code 3 = .ok (.invokestatic 9, 3) := by decide +kernel
theorem d17_6 : decode jdk_43_method_2_code 6 = .ok (.aload_n 0, 1) := by decide +kernel
theorem d17_7 : decode jdk_43_method_2_code 7 = .ok (.iload_n 1, 1) := by decide +kernel
theorem d17_8 : decode jdk_43_method_2_code 8 = .ok (.baload, 1) := by decide +kernel
theorem d17_9 : decode jdk_43_method_2_code 9 = .ok (.sipush 255, 3) := by decide +kernel
theorem d17_12 : decode jdk_43_method_2_code 12 = .ok (.iand, 1) := by decide +kernel
theorem d17_13 : decode jdk_43_method_2_code 13 = .ok (.i2c, 1) := by decide +kernel
theorem d17_14 : decode jdk_43_method_2_code 14 = .ok (.ireturn, 1) := by decide +kernel
theorem d18_0 : decode jdk_42_method_155_code 0 = .ok (.iload_n 0, 1) := by decide +kernel
theorem d18_1 : decode jdk_42_method_155_code 1 = .ok (.iload_n 1, 1) := by decide +kernel
theorem d18_2 : decode jdk_42_method_155_code 2 = .ok (.getstatic 1053, 3) := by decide +kernel
theorem d18_5 : decode jdk_42_method_155_code 5 = .ok (.invokestatic 1059, 3) := by decide +kernel
theorem d18_8 : decode jdk_42_method_155_code 8 = .ok (.pop, 1) := by decide +kernel
theorem d18_9 : decode jdk_42_method_155_code 9 = .ok (.return_, 1) := by decide +kernel
theorem d19_0 : decode jdk_41_method_11_code 0 = .ok (.iload_n 0, 1) := by decide +kernel
theorem d19_1 : decode jdk_41_method_11_code 1 = .ok (.ifCond .lt 8, 3) := by decide +kernel
theorem d19_4 : decode jdk_41_method_11_code 4 = .ok (.iload_n 0, 1) := by decide +kernel
theorem d19_5 : decode jdk_41_method_11_code 5 = .ok (.iload_n 1, 1) := by decide +kernel
theorem d19_6 : decode jdk_41_method_11_code 6 = .ok (.if_icmp .lt 10, 3) := by decide +kernel
theorem d19_16 : decode jdk_41_method_11_code 16 = .ok (.iload_n 0, 1) := by decide +kernel
theorem d19_17 : decode jdk_41_method_11_code 17 = .ok (.ireturn, 1) := by decide +kernel
theorem d20_0 : decode jdk_52_method_83_code 0 = .ok (.iload_n 1, 1) := by decide +kernel
theorem d20_1 : decode jdk_52_method_83_code 1 = .ok (.aload_n 0, 1) := by decide +kernel
theorem d20_2 : decode jdk_52_method_83_code 2 = .ok (.invokestatic 67, 3) := by decide +kernel
theorem d20_5 : decode jdk_52_method_83_code 5 = .ok (.aload_n 0, 1) := by decide +kernel
theorem d20_6 : decode jdk_52_method_83_code 6 = .ok (.iload_n 1, 1) := by decide +kernel
theorem d20_7 : decode jdk_52_method_83_code 7 = .ok (.invokestatic 71, 3) := by decide +kernel
theorem d20_10 : decode jdk_52_method_83_code 10 = .ok (.ireturn, 1) := by decide +kernel
theorem d21_0 : decode jdk_52_method_91_code 0 = .ok (.iload_n 0, 1) := by decide +kernel
theorem d21_1 : decode jdk_52_method_91_code 1 = .ok (.aload_n 1, 1) := by decide +kernel
theorem d21_2 : decode jdk_52_method_91_code 2 = .ok (.invokestatic 48, 3) := by decide +kernel
theorem d21_5 : decode jdk_52_method_91_code 5 = .ok (.invokestatic 414, 3) := by decide +kernel
theorem d21_8 : decode jdk_52_method_91_code 8 = .ok (.return_, 1) := by decide +kernel
theorem d22_0 : decode jdk_52_method_6_code 0 = .ok (.aload_n 0, 1) := by decide +kernel
theorem d22_1 : decode jdk_52_method_6_code 1 = .ok (.arraylength, 1) := by decide +kernel
theorem d22_2 : decode jdk_52_method_6_code 2 = .ok (.iconst 1, 1) := by decide +kernel
theorem d22_3 : decode jdk_52_method_6_code 3 = .ok (.ishr, 1) := by decide +kernel
theorem d22_4 : decode jdk_52_method_6_code 4 = .ok (.ireturn, 1) := by decide +kernel
theorem pn_0 : plainName "java/lang/StringUTF16" = true := by first | (simp [plainName, overriddenIn]; done) | decide +kernel
theorem pn_1 : plainName "java/lang/String" = true := by first | (simp [plainName, overriddenIn]; done) | decide +kernel
theorem pn_2 : plainName "jdk/internal/util/Preconditions" = true := by first | (simp [plainName, overriddenIn]; done) | decide +kernel
theorem pn_3 : plainName "java/lang/StringLatin1" = true := by first | (simp [plainName, overriddenIn]; done) | decide +kernel
theorem pn_4 : plainName "com/example/harborspread/harborspread/Decimals" = true := by first | (simp [plainName, overriddenIn]; done) | decide +kernel
theorem pn_5 : plainName "com/example/harborspread/harborspread/DecimalsIsDigitsPinLaw" = true := by first | (simp [plainName, overriddenIn]; done) | decide +kernel
theorem pd_0 : parseMethodDescriptor "(I)I" = some ⟨[.int], some .int⟩ := by decide +kernel
theorem pd_1 : parseMethodDescriptor "(I)[B" = some ⟨[.int], some (.array .byte)⟩ := by decide +kernel
theorem pd_2 : parseMethodDescriptor "([BII)V" = some ⟨[(.array .byte), .int, .int], none⟩ := by decide +kernel
theorem pd_3 : parseMethodDescriptor "([CI[BII)I" = some ⟨[(.array .char), .int, (.array .byte), .int, .int], some .int⟩ := by decide +kernel
theorem pd_4 : parseMethodDescriptor "([CII)[B" = some ⟨[(.array .char), .int, .int], some (.array .byte)⟩ := by decide +kernel
theorem pd_5 : parseMethodDescriptor "([BI)C" = some ⟨[(.array .byte), .int], some .char⟩ := by decide +kernel
theorem pd_6 : parseMethodDescriptor "([BI)B" = some ⟨[(.array .byte), .int], some .byte⟩ := by decide +kernel
theorem pd_7 : parseMethodDescriptor "([CIILjava/lang/Void;)V" = some ⟨[(.array .char), .int, .int, (.object "java/lang/Void")], none⟩ := by decide +kernel
theorem pd_8 : parseMethodDescriptor "(IILjava/util/function/BiFunction;)I" = some ⟨[.int, .int, (.object "java/util/function/BiFunction")], some .int⟩ := by decide +kernel
theorem pd_9 : parseMethodDescriptor "([B)I" = some ⟨[(.array .byte)], some .int⟩ := by decide +kernel
theorem pd_10 : parseMethodDescriptor "(II)V" = some ⟨[.int, .int], none⟩ := by decide +kernel
theorem pd_11 : parseMethodDescriptor "(I[B)V" = some ⟨[.int, (.array .byte)], none⟩ := by decide +kernel
theorem pd_12 : parseMethodDescriptor "()Z" = some ⟨[], some .boolean⟩ := by decide +kernel
theorem pd_13 : parseMethodDescriptor "(I)C" = some ⟨[.int], some .char⟩ := by decide +kernel
theorem pd_14 : parseMethodDescriptor "([C)V" = some ⟨[(.array .char)], none⟩ := by decide +kernel
theorem pd_15 : parseMethodDescriptor "(Ljava/lang/String;II)Z" = some ⟨[(.object "java/lang/String"), .int, .int], some .boolean⟩ := by decide +kernel
theorem pd_16 : parseMethodDescriptor "(CIII)Z" = some ⟨[.char, .int, .int, .int], some .boolean⟩ := by decide +kernel
theorem w0 {Z : State} {a0 : Array Value} (hw : ∀ d ∈ tables_1, d.before a0 Z = true) : (Jvm.Cond.methodLink "com/example/harborspread/harborspread/DecimalsIsDigitsPinLaw" (8 : Nat) ({ cls := "com/example/harborspread/harborspread/DecimalsIsDigitsPinLaw", name := "ch", desc := "(I)C" } : Jvm.MethodName)).before a0 Z = true := hw _ (List.mem_of_getElem? (i := 0) rfl)
theorem w1 {Z : State} {a0 : Array Value} (hw : ∀ d ∈ tables_1, d.before a0 Z = true) : (Jvm.Cond.static ({ cls := "com/example/harborspread/harborspread/DecimalsIsDigitsPinLaw", name := "ch", desc := "(I)C" } : Jvm.MethodName)).before a0 Z = true := hw _ (List.mem_of_getElem? (i := 1) rfl)
theorem w2 {Z : State} {a0 : Array Value} (hw : ∀ d ∈ tables_1, d.before a0 Z = true) : (Jvm.Cond.initialized "com/example/harborspread/harborspread/DecimalsIsDigitsPinLaw").before a0 Z = true := hw _ (List.mem_of_getElem? (i := 2) rfl)
theorem w3 {Z : State} {a0 : Array Value} (hw : ∀ d ∈ tables_1, d.before a0 Z = true) : (Jvm.Cond.code ({ cls := "com/example/harborspread/harborspread/DecimalsIsDigitsPinLaw", name := "ch", desc := "(I)C" } : Jvm.MethodName) method_2_code (1 : Nat) (Option.some Jvm.ClassFile.FieldType.char)).before a0 Z = true := hw _ (List.mem_of_getElem? (i := 3) rfl)
theorem w4 {Z : State} {a0 : Array Value} (hw : ∀ d ∈ tables_1, d.before a0 Z = true) : (Jvm.Cond.constant "com/example/harborspread/harborspread/DecimalsIsDigitsPinLaw" (7 : Nat) (65535 : Int32)).before a0 Z = true := hw _ (List.mem_of_getElem? (i := 4) rfl)
theorem w5 {Z : State} {a0 : Array Value} (hw : ∀ d ∈ tables_1, d.before a0 Z = true) : (Jvm.Cond.arrayClass Jvm.ClassFile.FieldType.char).before a0 Z = true := hw _ (List.mem_of_getElem? (i := 5) rfl)
theorem w6 {Z : State} {a0 : Array Value} (hw : ∀ d ∈ tables_1, d.before a0 Z = true) : (Jvm.Cond.classLink "com/example/harborspread/harborspread/DecimalsIsDigitsPinLaw" (14 : Nat) "java/lang/String").before a0 Z = true := hw _ (List.mem_of_getElem? (i := 6) rfl)
theorem w7 {Z : State} {a0 : Array Value} (hw : ∀ d ∈ tables_1, d.before a0 Z = true) : (Jvm.Cond.instantiable "java/lang/String" (4 : Nat)).before a0 Z = true := hw _ (List.mem_of_getElem? (i := 7) rfl)
theorem w8 {Z : State} {a0 : Array Value} (hw : ∀ d ∈ tables_1, d.before a0 Z = true) : (Jvm.Cond.initialized "java/lang/String").before a0 Z = true := hw _ (List.mem_of_getElem? (i := 8) rfl)
theorem w9 {Z : State} {a0 : Array Value} (hw : ∀ d ∈ tables_1, d.before a0 Z = true) : (Jvm.Cond.methodLink "com/example/harborspread/harborspread/DecimalsIsDigitsPinLaw" (16 : Nat) ({ cls := "java/lang/String", name := "<init>", desc := "([C)V" } : Jvm.MethodName)).before a0 Z = true := hw _ (List.mem_of_getElem? (i := 9) rfl)
theorem w10 {Z : State} {a0 : Array Value} (hw : ∀ d ∈ tables_1, d.before a0 Z = true) : (Jvm.Cond.instanceMethod ({ cls := "java/lang/String", name := "<init>", desc := "([C)V" } : Jvm.MethodName)).before a0 Z = true := hw _ (List.mem_of_getElem? (i := 10) rfl)
theorem w11 {Z : State} {a0 : Array Value} (hw : ∀ d ∈ tables_1, d.before a0 Z = true) : (Jvm.Cond.code ({ cls := "java/lang/String", name := "<init>", desc := "([C)V" } : Jvm.MethodName) jdk_42_method_3_code (2 : Nat) (Option.none : Option Jvm.ClassFile.FieldType)).before a0 Z = true := hw _ (List.mem_of_getElem? (i := 11) rfl)
theorem w12 {Z : State} {a0 : Array Value} (hw : ∀ d ∈ tables_1, d.before a0 Z = true) : (Jvm.Cond.methodLink "java/lang/String" (27 : Nat) ({ cls := "java/lang/String", name := "<init>", desc := "([CIILjava/lang/Void;)V" } : Jvm.MethodName)).before a0 Z = true := hw _ (List.mem_of_getElem? (i := 12) rfl)
theorem w13 {Z : State} {a0 : Array Value} (hw : ∀ d ∈ tables_1, d.before a0 Z = true) : (Jvm.Cond.instanceMethod ({ cls := "java/lang/String", name := "<init>", desc := "([CIILjava/lang/Void;)V" } : Jvm.MethodName)).before a0 Z = true := hw _ (List.mem_of_getElem? (i := 13) rfl)
theorem w15 {Z : State} {a0 : Array Value} (hw : ∀ d ∈ tables_1, d.before a0 Z = true) : (Jvm.Cond.code ({ cls := "java/lang/String", name := "<init>", desc := "([CIILjava/lang/Void;)V" } : Jvm.MethodName) jdk_42_method_149_code (6 : Nat) (Option.none : Option Jvm.ClassFile.FieldType)).before a0 Z = true := hw _ (List.mem_of_getElem? (i := 15) rfl)
theorem w16 {Z : State} {a0 : Array Value} (hw : ∀ d ∈ tables_1, d.before a0 Z = true) : (Jvm.Cond.methodLink "java/lang/String" (1 : Nat) ({ cls := "java/lang/Object", name := "<init>", desc := "()V" } : Jvm.MethodName)).before a0 Z = true := hw _ (List.mem_of_getElem? (i := 16) rfl)
theorem w17 {Z : State} {a0 : Array Value} (hw : ∀ d ∈ tables_1, d.before a0 Z = true) : (Jvm.Cond.instanceMethod ({ cls := "java/lang/Object", name := "<init>", desc := "()V" } : Jvm.MethodName)).before a0 Z = true := hw _ (List.mem_of_getElem? (i := 17) rfl)
theorem w18 {Z : State} {a0 : Array Value} (hw : ∀ d ∈ tables_1, d.before a0 Z = true) : (Jvm.Cond.code ({ cls := "java/lang/Object", name := "<init>", desc := "()V" } : Jvm.MethodName) object_method_1_code (1 : Nat) (Option.none : Option Jvm.ClassFile.FieldType)).before a0 Z = true := hw _ (List.mem_of_getElem? (i := 18) rfl)
theorem w19 {Z : State} {a0 : Array Value} (hw : ∀ d ∈ tables_1, d.before a0 Z = true) : (Jvm.Cond.fieldLink "java/lang/String" (38 : Nat) "java/lang/String" "COMPACT_STRINGS" "Z").before a0 Z = true := hw _ (List.mem_of_getElem? (i := 19) rfl)
theorem w20 {Z : State} {a0 : Array Value} (hw : ∀ d ∈ tables_1, d.before a0 Z = true) : (Jvm.Cond.methodLink "java/lang/String" (177 : Nat) ({ cls := "java/lang/StringUTF16", name := "compress", desc := "([CII)[B" } : Jvm.MethodName)).before a0 Z = true := hw _ (List.mem_of_getElem? (i := 20) rfl)
theorem w21 {Z : State} {a0 : Array Value} (hw : ∀ d ∈ tables_1, d.before a0 Z = true) : (Jvm.Cond.static ({ cls := "java/lang/StringUTF16", name := "compress", desc := "([CII)[B" } : Jvm.MethodName)).before a0 Z = true := hw _ (List.mem_of_getElem? (i := 21) rfl)
theorem w22 {Z : State} {a0 : Array Value} (hw : ∀ d ∈ tables_1, d.before a0 Z = true) : (Jvm.Cond.initialized "java/lang/StringUTF16").before a0 Z = true := hw _ (List.mem_of_getElem? (i := 22) rfl)
theorem w23 {Z : State} {a0 : Array Value} (hw : ∀ d ∈ tables_1, d.before a0 Z = true) : (Jvm.Cond.code ({ cls := "java/lang/StringUTF16", name := "compress", desc := "([CII)[B" } : Jvm.MethodName) jdk_52_method_16_code (6 : Nat) (Option.some (Jvm.ClassFile.FieldType.array Jvm.ClassFile.FieldType.byte))).before a0 Z = true := hw _ (List.mem_of_getElem? (i := 23) rfl)
theorem w24 {Z : State} {a0 : Array Value} (hw : ∀ d ∈ tables_1, d.before a0 Z = true) : (Jvm.Cond.arrayClass Jvm.ClassFile.FieldType.byte).before a0 Z = true := hw _ (List.mem_of_getElem? (i := 24) rfl)
theorem w25 {Z : State} {a0 : Array Value} (hw : ∀ d ∈ tables_1, d.before a0 Z = true) : (Jvm.Cond.methodLink "java/lang/StringUTF16" (115 : Nat) ({ cls := "java/lang/StringUTF16", name := "compress", desc := "([CI[BII)I" } : Jvm.MethodName)).before a0 Z = true := hw _ (List.mem_of_getElem? (i := 25) rfl)
theorem w26 {Z : State} {a0 : Array Value} (hw : ∀ d ∈ tables_1, d.before a0 Z = true) : (Jvm.Cond.static ({ cls := "java/lang/StringUTF16", name := "compress", desc := "([CI[BII)I" } : Jvm.MethodName)).before a0 Z = true := hw _ (List.mem_of_getElem? (i := 26) rfl)
theorem w27 {Z : State} {a0 : Array Value} (hw : ∀ d ∈ tables_1, d.before a0 Z = true) : (Jvm.Cond.code ({ cls := "java/lang/StringUTF16", name := "compress", desc := "([CI[BII)I" } : Jvm.MethodName) jdk_52_method_21_code (7 : Nat) (Option.some Jvm.ClassFile.FieldType.int)).before a0 Z = true := hw _ (List.mem_of_getElem? (i := 27) rfl)
theorem w28 {Z : State} {a0 : Array Value} (hw : ∀ d ∈ tables_1, d.before a0 Z = true) : (Jvm.Cond.methodLink "java/lang/String" (47 : Nat) ({ cls := "java/lang/StringUTF16", name := "coderFromArrayLen", desc := "([BI)B" } : Jvm.MethodName)).before a0 Z = true := hw _ (List.mem_of_getElem? (i := 28) rfl)
theorem w29 {Z : State} {a0 : Array Value} (hw : ∀ d ∈ tables_1, d.before a0 Z = true) : (Jvm.Cond.static ({ cls := "java/lang/StringUTF16", name := "coderFromArrayLen", desc := "([BI)B" } : Jvm.MethodName)).before a0 Z = true := hw _ (List.mem_of_getElem? (i := 29) rfl)
theorem w30 {Z : State} {a0 : Array Value} (hw : ∀ d ∈ tables_1, d.before a0 Z = true) : (Jvm.Cond.code ({ cls := "java/lang/StringUTF16", name := "coderFromArrayLen", desc := "([BI)B" } : Jvm.MethodName) jdk_52_method_15_code (2 : Nat) (Option.some Jvm.ClassFile.FieldType.byte)).before a0 Z = true := hw _ (List.mem_of_getElem? (i := 30) rfl)
theorem w31 {Z : State} {a0 : Array Value} (hw : ∀ d ∈ tables_1, d.before a0 Z = true) : (Jvm.Cond.fieldLink "java/lang/String" (15 : Nat) "java/lang/String" "coder" "B").before a0 Z = true := hw _ (List.mem_of_getElem? (i := 31) rfl)
theorem w32 {Z : State} {a0 : Array Value} (hw : ∀ d ∈ tables_1, d.before a0 Z = true) : (Jvm.Cond.laysFinal "java/lang/String" "java/lang/String" "coder" "B").before a0 Z = true := hw _ (List.mem_of_getElem? (i := 32) rfl)
theorem w33 {Z : State} {a0 : Array Value} (hw : ∀ d ∈ tables_1, d.before a0 Z = true) : (Jvm.Cond.fieldLink "java/lang/String" (9 : Nat) "java/lang/String" "value" "[B").before a0 Z = true := hw _ (List.mem_of_getElem? (i := 33) rfl)
theorem w34 {Z : State} {a0 : Array Value} (hw : ∀ d ∈ tables_1, d.before a0 Z = true) : (Jvm.Cond.laysFinal "java/lang/String" "java/lang/String" "value" "[B").before a0 Z = true := hw _ (List.mem_of_getElem? (i := 34) rfl)
theorem w35 {Z : State} {a0 : Array Value} (hw : ∀ d ∈ tables_1, d.before a0 Z = true) : (Jvm.Cond.methodLink "com/example/harborspread/harborspread/DecimalsIsDigitsPinLaw" (23 : Nat) ({ cls := "com/example/harborspread/harborspread/Decimals", name := "isDigits", desc := "(Ljava/lang/String;II)Z" } : Jvm.MethodName)).before a0 Z = true := hw _ (List.mem_of_getElem? (i := 35) rfl)
theorem w36 {Z : State} {a0 : Array Value} (hw : ∀ d ∈ tables_1, d.before a0 Z = true) : (Jvm.Cond.static ({ cls := "com/example/harborspread/harborspread/Decimals", name := "isDigits", desc := "(Ljava/lang/String;II)Z" } : Jvm.MethodName)).before a0 Z = true := hw _ (List.mem_of_getElem? (i := 36) rfl)
theorem w37 {Z : State} {a0 : Array Value} (hw : ∀ d ∈ tables_1, d.before a0 Z = true) : (Jvm.Cond.initialized "com/example/harborspread/harborspread/Decimals").before a0 Z = true := hw _ (List.mem_of_getElem? (i := 37) rfl)
theorem w38 {Z : State} {a0 : Array Value} (hw : ∀ d ∈ tables_1, d.before a0 Z = true) : (Jvm.Cond.code ({ cls := "com/example/harborspread/harborspread/Decimals", name := "isDigits", desc := "(Ljava/lang/String;II)Z" } : Jvm.MethodName) prog_21_method_11_code (5 : Nat) (Option.some Jvm.ClassFile.FieldType.boolean)).before a0 Z = true := hw _ (List.mem_of_getElem? (i := 38) rfl)
theorem w39 {Z : State} {a0 : Array Value} (hw : ∀ d ∈ tables_1, d.before a0 Z = true) : (Jvm.Cond.methodLink "java/lang/StringUTF16" (119 : Nat) ({ cls := "java/lang/StringUTF16", name := "toBytes", desc := "([CII)[B" } : Jvm.MethodName)).before a0 Z = true := hw _ (List.mem_of_getElem? (i := 39) rfl)
theorem w40 {Z : State} {a0 : Array Value} (hw : ∀ d ∈ tables_1, d.before a0 Z = true) : (Jvm.Cond.static ({ cls := "java/lang/StringUTF16", name := "toBytes", desc := "([CII)[B" } : Jvm.MethodName)).before a0 Z = true := hw _ (List.mem_of_getElem? (i := 40) rfl)
theorem w41 {Z : State} {a0 : Array Value} (hw : ∀ d ∈ tables_1, d.before a0 Z = true) : (Jvm.Cond.code ({ cls := "java/lang/StringUTF16", name := "toBytes", desc := "([CII)[B" } : Jvm.MethodName) jdk_52_method_14_code (5 : Nat) (Option.some (Jvm.ClassFile.FieldType.array Jvm.ClassFile.FieldType.byte))).before a0 Z = true := hw _ (List.mem_of_getElem? (i := 41) rfl)
theorem w42 {Z : State} {a0 : Array Value} (hw : ∀ d ∈ tables_1, d.before a0 Z = true) : (Jvm.Cond.methodLink "java/lang/StringUTF16" (107 : Nat) ({ cls := "java/lang/StringUTF16", name := "newBytesFor", desc := "(I)[B" } : Jvm.MethodName)).before a0 Z = true := hw _ (List.mem_of_getElem? (i := 42) rfl)
theorem w43 {Z : State} {a0 : Array Value} (hw : ∀ d ∈ tables_1, d.before a0 Z = true) : (Jvm.Cond.static ({ cls := "java/lang/StringUTF16", name := "newBytesFor", desc := "(I)[B" } : Jvm.MethodName)).before a0 Z = true := hw _ (List.mem_of_getElem? (i := 43) rfl)
theorem w44 {Z : State} {a0 : Array Value} (hw : ∀ d ∈ tables_1, d.before a0 Z = true) : (Jvm.Cond.code ({ cls := "java/lang/StringUTF16", name := "newBytesFor", desc := "(I)[B" } : Jvm.MethodName) jdk_52_method_2_code (1 : Nat) (Option.some (Jvm.ClassFile.FieldType.array Jvm.ClassFile.FieldType.byte))).before a0 Z = true := hw _ (List.mem_of_getElem? (i := 44) rfl)
theorem w45 {Z : State} {a0 : Array Value} (hw : ∀ d ∈ tables_1, d.before a0 Z = true) : (Jvm.Cond.methodLink "java/lang/StringUTF16" (11 : Nat) ({ cls := "java/lang/StringUTF16", name := "newBytesLength", desc := "(I)I" } : Jvm.MethodName)).before a0 Z = true := hw _ (List.mem_of_getElem? (i := 45) rfl)
theorem w46 {Z : State} {a0 : Array Value} (hw : ∀ d ∈ tables_1, d.before a0 Z = true) : (Jvm.Cond.static ({ cls := "java/lang/StringUTF16", name := "newBytesLength", desc := "(I)I" } : Jvm.MethodName)).before a0 Z = true := hw _ (List.mem_of_getElem? (i := 46) rfl)
theorem w47 {Z : State} {a0 : Array Value} (hw : ∀ d ∈ tables_1, d.before a0 Z = true) : (Jvm.Cond.code ({ cls := "java/lang/StringUTF16", name := "newBytesLength", desc := "(I)I" } : Jvm.MethodName) jdk_52_method_3_code (1 : Nat) (Option.some Jvm.ClassFile.FieldType.int)).before a0 Z = true := hw _ (List.mem_of_getElem? (i := 47) rfl)
theorem w48 {Z : State} {a0 : Array Value} (hw : ∀ d ∈ tables_1, d.before a0 Z = true) : (Jvm.Cond.constant "java/lang/StringUTF16" (20 : Nat) (1073741823 : Int32)).before a0 Z = true := hw _ (List.mem_of_getElem? (i := 48) rfl)
theorem w49 {Z : State} {a0 : Array Value} (hw : ∀ d ∈ tables_1, d.before a0 Z = true) : (Jvm.Cond.methodLink "java/lang/StringUTF16" (111 : Nat) ({ cls := "java/lang/StringUTF16", name := "putChar", desc := "([BII)V" } : Jvm.MethodName)).before a0 Z = true := hw _ (List.mem_of_getElem? (i := 49) rfl)
theorem w50 {Z : State} {a0 : Array Value} (hw : ∀ d ∈ tables_1, d.before a0 Z = true) : (Jvm.Cond.static ({ cls := "java/lang/StringUTF16", name := "putChar", desc := "([BII)V" } : Jvm.MethodName)).before a0 Z = true := hw _ (List.mem_of_getElem? (i := 50) rfl)
theorem w51 {Z : State} {a0 : Array Value} (hw : ∀ d ∈ tables_1, d.before a0 Z = true) : (Jvm.Cond.code ({ cls := "java/lang/StringUTF16", name := "putChar", desc := "([BII)V" } : Jvm.MethodName) jdk_52_method_4_code (3 : Nat) (Option.none : Option Jvm.ClassFile.FieldType)).before a0 Z = true := hw _ (List.mem_of_getElem? (i := 51) rfl)
theorem w52 {Z : State} {a0 : Array Value} (hw : ∀ d ∈ tables_1, d.before a0 Z = true) : (Jvm.Cond.fieldLink "java/lang/StringUTF16" (44 : Nat) "java/lang/StringUTF16" "$assertionsDisabled" "Z").before a0 Z = true := hw _ (List.mem_of_getElem? (i := 52) rfl)
theorem w53 {Z : State} {a0 : Array Value} (hw : ∀ d ∈ tables_1, d.before a0 Z = true) : (Jvm.Cond.fieldLink "java/lang/StringUTF16" (59 : Nat) "java/lang/StringUTF16" "HI_BYTE_SHIFT" "I").before a0 Z = true := hw _ (List.mem_of_getElem? (i := 53) rfl)
theorem w54 {Z : State} {a0 : Array Value} (hw : ∀ d ∈ tables_1, d.before a0 Z = true) : (Jvm.Cond.fieldLink "java/lang/StringUTF16" (63 : Nat) "java/lang/StringUTF16" "LO_BYTE_SHIFT" "I").before a0 Z = true := hw _ (List.mem_of_getElem? (i := 54) rfl)
theorem w55 {Z : State} {a0 : Array Value} (hw : ∀ d ∈ tables_1, d.before a0 Z = true) : (Jvm.Cond.methodLink "java/lang/StringUTF16" (71 : Nat) ({ cls := "java/lang/StringUTF16", name := "getChar", desc := "([BI)C" } : Jvm.MethodName)).before a0 Z = true := hw _ (List.mem_of_getElem? (i := 55) rfl)
theorem w56 {Z : State} {a0 : Array Value} (hw : ∀ d ∈ tables_1, d.before a0 Z = true) : (Jvm.Cond.static ({ cls := "java/lang/StringUTF16", name := "getChar", desc := "([BI)C" } : Jvm.MethodName)).before a0 Z = true := hw _ (List.mem_of_getElem? (i := 56) rfl)
theorem w57 {Z : State} {a0 : Array Value} (hw : ∀ d ∈ tables_1, d.before a0 Z = true) : (Jvm.Cond.code ({ cls := "java/lang/StringUTF16", name := "getChar", desc := "([BI)C" } : Jvm.MethodName) jdk_52_method_5_code (2 : Nat) (Option.some Jvm.ClassFile.FieldType.char)).before a0 Z = true := hw _ (List.mem_of_getElem? (i := 57) rfl)
theorem w58 {Z : State} {a0 : Array Value} (hw : ∀ d ∈ tables_1, d.before a0 Z = true) : (Jvm.Cond.methodLink "com/example/harborspread/harborspread/DecimalsIsDigitsPinLaw" (19 : Nat) ({ cls := "com/example/harborspread/harborspread/DecimalsIsDigitsPinLaw", name := "fine", desc := "(CIII)Z" } : Jvm.MethodName)).before a0 Z = true := hw _ (List.mem_of_getElem? (i := 58) rfl)
theorem w59 {Z : State} {a0 : Array Value} (hw : ∀ d ∈ tables_1, d.before a0 Z = true) : (Jvm.Cond.static ({ cls := "com/example/harborspread/harborspread/DecimalsIsDigitsPinLaw", name := "fine", desc := "(CIII)Z" } : Jvm.MethodName)).before a0 Z = true := hw _ (List.mem_of_getElem? (i := 59) rfl)
theorem w60 {Z : State} {a0 : Array Value} (hw : ∀ d ∈ tables_1, d.before a0 Z = true) : (Jvm.Cond.code ({ cls := "com/example/harborspread/harborspread/DecimalsIsDigitsPinLaw", name := "fine", desc := "(CIII)Z" } : Jvm.MethodName) method_3_code (4 : Nat) (Option.some Jvm.ClassFile.FieldType.boolean)).before a0 Z = true := hw _ (List.mem_of_getElem? (i := 60) rfl)
theorem w61 {Z : State} {a0 : Array Value} (hw : ∀ d ∈ tables_1, d.before a0 Z = true) : (Jvm.Cond.methodLink "com/example/harborspread/harborspread/Decimals" (106 : Nat) ({ cls := "java/lang/String", name := "charAt", desc := "(I)C" } : Jvm.MethodName)).before a0 Z = true := hw _ (List.mem_of_getElem? (i := 61) rfl)
theorem w62 {Z : State} {a0 : Array Value} (hw : ∀ d ∈ tables_1, d.before a0 Z = true) : (Jvm.Cond.declares ({ cls := "java/lang/String", name := "charAt", desc := "(I)C" } : Jvm.MethodName)).before a0 Z = true := hw _ (List.mem_of_getElem? (i := 62) rfl)
theorem w63 {Z : State} {a0 : Array Value} (hw : ∀ d ∈ tables_1, d.before a0 Z = true) : (Jvm.Cond.instanceMethod ({ cls := "java/lang/String", name := "charAt", desc := "(I)C" } : Jvm.MethodName)).before a0 Z = true := hw _ (List.mem_of_getElem? (i := 63) rfl)
theorem w64 {Z : State} {a0 : Array Value} (hw : ∀ d ∈ tables_1, d.before a0 Z = true) : (Jvm.Cond.selects "java/lang/String" ({ cls := "java/lang/String", name := "charAt", desc := "(I)C" } : Jvm.MethodName) ({ cls := "java/lang/String", name := "charAt", desc := "(I)C" } : Jvm.MethodName)).before a0 Z = true := hw _ (List.mem_of_getElem? (i := 64) rfl)
theorem w65 {Z : State} {a0 : Array Value} (hw : ∀ d ∈ tables_1, d.before a0 Z = true) : (Jvm.Cond.code ({ cls := "java/lang/String", name := "charAt", desc := "(I)C" } : Jvm.MethodName) jdk_42_method_56_code (2 : Nat) (Option.some Jvm.ClassFile.FieldType.char)).before a0 Z = true := hw _ (List.mem_of_getElem? (i := 65) rfl)
theorem w66 {Z : State} {a0 : Array Value} (hw : ∀ d ∈ tables_1, d.before a0 Z = true) : (Jvm.Cond.methodLink "java/lang/String" (492 : Nat) ({ cls := "java/lang/String", name := "isLatin1", desc := "()Z" } : Jvm.MethodName)).before a0 Z = true := hw _ (List.mem_of_getElem? (i := 66) rfl)
theorem w67 {Z : State} {a0 : Array Value} (hw : ∀ d ∈ tables_1, d.before a0 Z = true) : (Jvm.Cond.declares ({ cls := "java/lang/String", name := "isLatin1", desc := "()Z" } : Jvm.MethodName)).before a0 Z = true := hw _ (List.mem_of_getElem? (i := 67) rfl)
theorem w68 {Z : State} {a0 : Array Value} (hw : ∀ d ∈ tables_1, d.before a0 Z = true) : (Jvm.Cond.instanceMethod ({ cls := "java/lang/String", name := "isLatin1", desc := "()Z" } : Jvm.MethodName)).before a0 Z = true := hw _ (List.mem_of_getElem? (i := 68) rfl)
theorem w69 {Z : State} {a0 : Array Value} (hw : ∀ d ∈ tables_1, d.before a0 Z = true) : (Jvm.Cond.selects "java/lang/String" ({ cls := "java/lang/String", name := "isLatin1", desc := "()Z" } : Jvm.MethodName) ({ cls := "java/lang/String", name := "isLatin1", desc := "()Z" } : Jvm.MethodName)).before a0 Z = true := hw _ (List.mem_of_getElem? (i := 69) rfl)
theorem w70 {Z : State} {a0 : Array Value} (hw : ∀ d ∈ tables_1, d.before a0 Z = true) : (Jvm.Cond.code ({ cls := "java/lang/String", name := "isLatin1", desc := "()Z" } : Jvm.MethodName) jdk_42_method_154_code (1 : Nat) (Option.some Jvm.ClassFile.FieldType.boolean)).before a0 Z = true := hw _ (List.mem_of_getElem? (i := 70) rfl)
theorem w71 {Z : State} {a0 : Array Value} (hw : ∀ d ∈ tables_1, d.before a0 Z = true) : (Jvm.Cond.methodLink "java/lang/String" (495 : Nat) ({ cls := "java/lang/StringLatin1", name := "charAt", desc := "([BI)C" } : Jvm.MethodName)).before a0 Z = true := hw _ (List.mem_of_getElem? (i := 71) rfl)
theorem w72 {Z : State} {a0 : Array Value} (hw : ∀ d ∈ tables_1, d.before a0 Z = true) : (Jvm.Cond.static ({ cls := "java/lang/StringLatin1", name := "charAt", desc := "([BI)C" } : Jvm.MethodName)).before a0 Z = true := hw _ (List.mem_of_getElem? (i := 72) rfl)
theorem w73 {Z : State} {a0 : Array Value} (hw : ∀ d ∈ tables_1, d.before a0 Z = true) : (Jvm.Cond.initialized "java/lang/StringLatin1").before a0 Z = true := hw _ (List.mem_of_getElem? (i := 73) rfl)
theorem w74 {Z : State} {a0 : Array Value} (hw : ∀ d ∈ tables_1, d.before a0 Z = true) : (Jvm.Cond.code ({ cls := "java/lang/StringLatin1", name := "charAt", desc := "([BI)C" } : Jvm.MethodName) jdk_43_method_2_code (2 : Nat) (Option.some Jvm.ClassFile.FieldType.char)).before a0 Z = true := hw _ (List.mem_of_getElem? (i := 74) rfl)
theorem w75 {Z : State} {a0 : Array Value} (hw : ∀ d ∈ tables_1, d.before a0 Z = true) : (Jvm.Cond.methodLink "java/lang/StringLatin1" (9 : Nat) ({ cls := "java/lang/String", name := "checkIndex", desc := "(II)V" } : Jvm.MethodName)).before a0 Z = true := hw _ (List.mem_of_getElem? (i := 75) rfl)
theorem w76 {Z : State} {a0 : Array Value} (hw : ∀ d ∈ tables_1, d.before a0 Z = true) : (Jvm.Cond.static ({ cls := "java/lang/String", name := "checkIndex", desc := "(II)V" } : Jvm.MethodName)).before a0 Z = true := hw _ (List.mem_of_getElem? (i := 76) rfl)
theorem w77 {Z : State} {a0 : Array Value} (hw : ∀ d ∈ tables_1, d.before a0 Z = true) : (Jvm.Cond.code ({ cls := "java/lang/String", name := "checkIndex", desc := "(II)V" } : Jvm.MethodName) jdk_42_method_155_code (2 : Nat) (Option.none : Option Jvm.ClassFile.FieldType)).before a0 Z = true := hw _ (List.mem_of_getElem? (i := 77) rfl)
theorem w78 {Z : State} {a0 : Array Value} (hw : ∀ d ∈ tables_1, d.before a0 Z = true) : (Jvm.Cond.fieldLink "java/lang/String" (1053 : Nat) "jdk/internal/util/Preconditions" "SIOOBE_FORMATTER" "Ljava/util/function/BiFunction;").before a0 Z = true := hw _ (List.mem_of_getElem? (i := 78) rfl)
theorem w79 {Z : State} {a0 : Array Value} (hw : ∀ d ∈ tables_1, d.before a0 Z = true) : (Jvm.Cond.initialized "jdk/internal/util/Preconditions").before a0 Z = true := hw _ (List.mem_of_getElem? (i := 79) rfl)
theorem w80 {Z : State} {a0 : Array Value} (hw : ∀ d ∈ tables_1, d.before a0 Z = true) : (Jvm.Cond.methodLink "java/lang/String" (1059 : Nat) ({ cls := "jdk/internal/util/Preconditions", name := "checkIndex", desc := "(IILjava/util/function/BiFunction;)I" } : Jvm.MethodName)).before a0 Z = true := hw _ (List.mem_of_getElem? (i := 80) rfl)
theorem w81 {Z : State} {a0 : Array Value} (hw : ∀ d ∈ tables_1, d.before a0 Z = true) : (Jvm.Cond.static ({ cls := "jdk/internal/util/Preconditions", name := "checkIndex", desc := "(IILjava/util/function/BiFunction;)I" } : Jvm.MethodName)).before a0 Z = true := hw _ (List.mem_of_getElem? (i := 81) rfl)
theorem w82 {Z : State} {a0 : Array Value} (hw : ∀ d ∈ tables_1, d.before a0 Z = true) : (Jvm.Cond.code ({ cls := "jdk/internal/util/Preconditions", name := "checkIndex", desc := "(IILjava/util/function/BiFunction;)I" } : Jvm.MethodName) jdk_41_method_11_code (3 : Nat) (Option.some Jvm.ClassFile.FieldType.int)).before a0 Z = true := hw _ (List.mem_of_getElem? (i := 82) rfl)
theorem w83 {Z : State} {a0 : Array Value} (hw : ∀ d ∈ tables_1, d.before a0 Z = true) : (Jvm.Cond.methodLink "java/lang/String" (498 : Nat) ({ cls := "java/lang/StringUTF16", name := "charAt", desc := "([BI)C" } : Jvm.MethodName)).before a0 Z = true := hw _ (List.mem_of_getElem? (i := 83) rfl)
theorem w84 {Z : State} {a0 : Array Value} (hw : ∀ d ∈ tables_1, d.before a0 Z = true) : (Jvm.Cond.static ({ cls := "java/lang/StringUTF16", name := "charAt", desc := "([BI)C" } : Jvm.MethodName)).before a0 Z = true := hw _ (List.mem_of_getElem? (i := 84) rfl)
theorem w85 {Z : State} {a0 : Array Value} (hw : ∀ d ∈ tables_1, d.before a0 Z = true) : (Jvm.Cond.code ({ cls := "java/lang/StringUTF16", name := "charAt", desc := "([BI)C" } : Jvm.MethodName) jdk_52_method_83_code (2 : Nat) (Option.some Jvm.ClassFile.FieldType.char)).before a0 Z = true := hw _ (List.mem_of_getElem? (i := 85) rfl)
theorem w86 {Z : State} {a0 : Array Value} (hw : ∀ d ∈ tables_1, d.before a0 Z = true) : (Jvm.Cond.methodLink "java/lang/StringUTF16" (67 : Nat) ({ cls := "java/lang/StringUTF16", name := "checkIndex", desc := "(I[B)V" } : Jvm.MethodName)).before a0 Z = true := hw _ (List.mem_of_getElem? (i := 86) rfl)
theorem w87 {Z : State} {a0 : Array Value} (hw : ∀ d ∈ tables_1, d.before a0 Z = true) : (Jvm.Cond.static ({ cls := "java/lang/StringUTF16", name := "checkIndex", desc := "(I[B)V" } : Jvm.MethodName)).before a0 Z = true := hw _ (List.mem_of_getElem? (i := 87) rfl)
theorem w88 {Z : State} {a0 : Array Value} (hw : ∀ d ∈ tables_1, d.before a0 Z = true) : (Jvm.Cond.code ({ cls := "java/lang/StringUTF16", name := "checkIndex", desc := "(I[B)V" } : Jvm.MethodName) jdk_52_method_91_code (2 : Nat) (Option.none : Option Jvm.ClassFile.FieldType)).before a0 Z = true := hw _ (List.mem_of_getElem? (i := 88) rfl)
theorem w89 {Z : State} {a0 : Array Value} (hw : ∀ d ∈ tables_1, d.before a0 Z = true) : (Jvm.Cond.methodLink "java/lang/StringUTF16" (48 : Nat) ({ cls := "java/lang/StringUTF16", name := "length", desc := "([B)I" } : Jvm.MethodName)).before a0 Z = true := hw _ (List.mem_of_getElem? (i := 89) rfl)
theorem w90 {Z : State} {a0 : Array Value} (hw : ∀ d ∈ tables_1, d.before a0 Z = true) : (Jvm.Cond.static ({ cls := "java/lang/StringUTF16", name := "length", desc := "([B)I" } : Jvm.MethodName)).before a0 Z = true := hw _ (List.mem_of_getElem? (i := 90) rfl)
theorem w91 {Z : State} {a0 : Array Value} (hw : ∀ d ∈ tables_1, d.before a0 Z = true) : (Jvm.Cond.code ({ cls := "java/lang/StringUTF16", name := "length", desc := "([B)I" } : Jvm.MethodName) jdk_52_method_6_code (1 : Nat) (Option.some Jvm.ClassFile.FieldType.int)).before a0 Z = true := hw _ (List.mem_of_getElem? (i := 91) rfl)
theorem w92 {Z : State} {a0 : Array Value} (hw : ∀ d ∈ tables_1, d.before a0 Z = true) : (Jvm.Cond.methodLink "java/lang/StringUTF16" (414 : Nat) ({ cls := "java/lang/String", name := "checkIndex", desc := "(II)V" } : Jvm.MethodName)).before a0 Z = true := hw _ (List.mem_of_getElem? (i := 92) rfl)
set_option maxRecDepth 65536 in
set_option maxHeartbeats 40000000 in
theorem b6 (l : Launch) (Z : State) (a0 : Array Value) (hw : ∀ d ∈ tables_1, d.before a0 Z = true) (a1 : Addr) (kc : ClassId) (dc : Value) (a2 : Addr) (kb : ClassId) (x0 : Int32) (x1 : Int32) (x2 : Int32) (x3 : Int32) (h0 : Heap) (n0 : Nat) (O0 : Old Z n0 h0) (A_0 : Arv Z h0 a1 kc .char (4 : Int32) [(.int x0), (.int x1), (.int x2), (.int x3)] dc) (A_1 : Arv Z h0 a2 kb .byte (4 : Int32) [(.int (0 : Int32)), (.int (0 : Int32)), (.int (0 : Int32)), (.int (0 : Int32))] (.int (0 : Int32))) (ne_2 : a1 ≠ a2) (g_3 : n0 ≤ a2) (hr_4 : (¬ (255 : Int32) < x0)) (hr_5 : (¬ (255 : Int32) < x1)) (hr_6 : (¬ (255 : Int32) < x2)) (hr_7 : (¬ (255 : Int32) < x3)) :
    Con l Z (⟨"java/lang/StringUTF16", "compress", "([CI[BII)I"⟩ : MethodName) jdk_52_method_21_code 7 (some .int) ({ frames := 0, cells := 0, slots := 0, locals := 0 } : Room) #[(.ref a1), (.int (0 : Int32)), (.ref a2), (.int (0 : Int32)), (.int (4 : Int32))] h0 (fun v h L => v = some (.int (4 : Int32)) ∧ Fr n0 L ∧ Keep h0 h [a2] ∧ Arv Z h a2 kb .byte (4 : Int32) [(.int x0.toInt8.toInt32), (.int x1.toInt8.toInt32), (.int x2.toInt8.toInt32), (.int x3.toInt8.toInt32)] (.int (0 : Int32))) := by
  refine Con.of (plainFor_of_name pn_0) ?_
  intro p e s m below meth c s₁ hx hby hml hZ hown hnm hret hlk X0 e0
  have N0 := Fr.nil n0
  refine go_cast (g' := mkF m 0 #[.val (.ref a1), .val (.int (0 : Int32)), .val (.ref a2), .val (.int (0 : Int32)), .val (.int (4 : Int32)), .unset, .unset] []) ?_ (by first | (simp [entryFrame, mkF, argsToLocals, Value.category]; done) | rfl)
  refine go_iconst (q := 1) X0 hx (hb hby d6_0) (v := (0 : Int32)) (by decide) rfl ?_
  refine go_istore (q := 3) X0 hx (hb hby d6_1) (l' := #[.val (.ref a1), .val (.int (0 : Int32)), .val (.ref a2), .val (.int (0 : Int32)), .val (.int (4 : Int32)), .val (.int (0 : Int32)), .unset]) rfl rfl ?_
  refine go_iload (q := 5) X0 hx (hb hby d6_3) (v := (0 : Int32)) rfl rfl ?_
  refine go_iload (q := 7) X0 hx (hb hby d6_5) (v := (4 : Int32)) rfl rfl ?_
  refine go_icmpN (q := 10) X0 hx (hb hby d6_7) (XT.ii_ge_f (by decide)) rfl ?_
  refine go_aload_n (q := 11) X0 hx (hb hby d6_10) (v := (.ref a1)) rfl rfl rfl ?_
  refine go_iload_n (q := 12) X0 hx (hb hby d6_11) (v := (0 : Int32)) rfl rfl ?_
  refine go_caload (q := 13) (j := (0 : Int32)) (v := (.int x0)) X0 hx hZ e0 A_0 (by decide) rfl (hb hby d6_12) rfl ?_
  refine go_istore (q := 15) X0 hx (hb hby d6_13) (l' := #[.val (.ref a1), .val (.int (0 : Int32)), .val (.ref a2), .val (.int (0 : Int32)), .val (.int (4 : Int32)), .val (.int (0 : Int32)), .val (.int x0)]) rfl rfl ?_
  refine go_iload (q := 17) X0 hx (hb hby d6_15) (v := x0) rfl rfl ?_
  refine go_sipush (q := 20) X0 hx (hb hby d6_17) (v := (255 : Int32)) (by decide) rfl ?_
  refine go_icmpY (q := 26) X0 hx (hb hby d6_20) (XT.ii_le_t hr_4) (by decide) (by decide) ?_
  refine go_aload_n (q := 27) X0 hx (hb hby d6_26) (v := (.ref a2)) rfl rfl rfl ?_
  refine go_iload_n (q := 28) X0 hx (hb hby d6_27) (v := (0 : Int32)) rfl rfl ?_
  refine go_iload (q := 30) X0 hx (hb hby d6_28) (v := x0) rfl rfl ?_
  refine go_i2b (q := 31) X0 hx (hb hby d6_30) (v := x0.toInt8.toInt32) rfl rfl ?_
  refine go_bastore (q := 32) (j := (0 : Int32)) (i := 0) (vs' := [(.int x0.toInt8.toInt32), (.int (0 : Int32)), (.int (0 : Int32)), (.int (0 : Int32))]) X0 hx hZ e0 A_1 (by decide) (by decide) (show (0 : Nat) < 4 by decide) (own_narb _) rfl (hb hby d6_31) rfl ?_
  intro T1 h1 X1 e1 W1 A1
  have N1 := Fr.snoc X1 N0 g_3
  refine go_iinc (q := 35) X1 hx (hb hby d6_32) (x := (0 : Int32)) (v := (1 : Int32)) rfl (by first | rfl | decide) (l' := #[.val (.ref a1), .val (.int (1 : Int32)), .val (.ref a2), .val (.int (0 : Int32)), .val (.int (4 : Int32)), .val (.int (0 : Int32)), .val (.int x0)]) rfl rfl ?_
  refine go_iinc (q := 38) X1 hx (hb hby d6_35) (x := (0 : Int32)) (v := (1 : Int32)) rfl (by first | rfl | decide) (l' := #[.val (.ref a1), .val (.int (1 : Int32)), .val (.ref a2), .val (.int (1 : Int32)), .val (.int (4 : Int32)), .val (.int (0 : Int32)), .val (.int x0)]) rfl rfl ?_
  refine go_iinc (q := 41) X1 hx (hb hby d6_38) (x := (0 : Int32)) (v := (1 : Int32)) rfl (by first | rfl | decide) (l' := #[.val (.ref a1), .val (.int (1 : Int32)), .val (.ref a2), .val (.int (1 : Int32)), .val (.int (4 : Int32)), .val (.int (1 : Int32)), .val (.int x0)]) rfl rfl ?_
  refine go_goto (q := 3) X1 hx (hb hby d6_41) (by decide) (by decide) ?_
  refine go_iload (q := 5) X1 hx (hb hby d6_3) (v := (1 : Int32)) rfl rfl ?_
  refine go_iload (q := 7) X1 hx (hb hby d6_5) (v := (4 : Int32)) rfl rfl ?_
  refine go_icmpN (q := 10) X1 hx (hb hby d6_7) (XT.ii_ge_f (by decide)) rfl ?_
  refine go_aload_n (q := 11) X1 hx (hb hby d6_10) (v := (.ref a1)) rfl rfl rfl ?_
  refine go_iload_n (q := 12) X1 hx (hb hby d6_11) (v := (1 : Int32)) rfl rfl ?_
  have f2 : Arv Z h1 a1 kc .char (4 : Int32) [(.int x0), (.int x1), (.int x2), (.int x3)] dc := (A_0.other W1 ne_2)
  refine go_caload (q := 13) (j := (1 : Int32)) (v := (.int x1)) X1 hx hZ e1 f2 (by decide) rfl (hb hby d6_12) rfl ?_
  refine go_istore (q := 15) X1 hx (hb hby d6_13) (l' := #[.val (.ref a1), .val (.int (1 : Int32)), .val (.ref a2), .val (.int (1 : Int32)), .val (.int (4 : Int32)), .val (.int (1 : Int32)), .val (.int x1)]) rfl rfl ?_
  refine go_iload (q := 17) X1 hx (hb hby d6_15) (v := x1) rfl rfl ?_
  refine go_sipush (q := 20) X1 hx (hb hby d6_17) (v := (255 : Int32)) (by decide) rfl ?_
  refine go_icmpY (q := 26) X1 hx (hb hby d6_20) (XT.ii_le_t hr_5) (by decide) (by decide) ?_
  refine go_aload_n (q := 27) X1 hx (hb hby d6_26) (v := (.ref a2)) rfl rfl rfl ?_
  refine go_iload_n (q := 28) X1 hx (hb hby d6_27) (v := (1 : Int32)) rfl rfl ?_
  refine go_iload (q := 30) X1 hx (hb hby d6_28) (v := x1) rfl rfl ?_
  refine go_i2b (q := 31) X1 hx (hb hby d6_30) (v := x1.toInt8.toInt32) rfl rfl ?_
  refine go_bastore (q := 32) (j := (1 : Int32)) (i := 1) (vs' := [(.int x0.toInt8.toInt32), (.int x1.toInt8.toInt32), (.int (0 : Int32)), (.int (0 : Int32))]) X1 hx hZ e1 A1 (by decide) (by decide) (show (1 : Nat) < 4 by decide) (own_narb _) rfl (hb hby d6_31) rfl ?_
  intro T3 h3 X3 e3 W3 A3
  have N3 := Fr.snoc X3 N1 g_3
  refine go_iinc (q := 35) X3 hx (hb hby d6_32) (x := (1 : Int32)) (v := (2 : Int32)) rfl (by first | rfl | decide) (l' := #[.val (.ref a1), .val (.int (2 : Int32)), .val (.ref a2), .val (.int (1 : Int32)), .val (.int (4 : Int32)), .val (.int (1 : Int32)), .val (.int x1)]) rfl rfl ?_
  refine go_iinc (q := 38) X3 hx (hb hby d6_35) (x := (1 : Int32)) (v := (2 : Int32)) rfl (by first | rfl | decide) (l' := #[.val (.ref a1), .val (.int (2 : Int32)), .val (.ref a2), .val (.int (2 : Int32)), .val (.int (4 : Int32)), .val (.int (1 : Int32)), .val (.int x1)]) rfl rfl ?_
  refine go_iinc (q := 41) X3 hx (hb hby d6_38) (x := (1 : Int32)) (v := (2 : Int32)) rfl (by first | rfl | decide) (l' := #[.val (.ref a1), .val (.int (2 : Int32)), .val (.ref a2), .val (.int (2 : Int32)), .val (.int (4 : Int32)), .val (.int (2 : Int32)), .val (.int x1)]) rfl rfl ?_
  refine go_goto (q := 3) X3 hx (hb hby d6_41) (by decide) (by decide) ?_
  refine go_iload (q := 5) X3 hx (hb hby d6_3) (v := (2 : Int32)) rfl rfl ?_
  refine go_iload (q := 7) X3 hx (hb hby d6_5) (v := (4 : Int32)) rfl rfl ?_
  refine go_icmpN (q := 10) X3 hx (hb hby d6_7) (XT.ii_ge_f (by decide)) rfl ?_
  refine go_aload_n (q := 11) X3 hx (hb hby d6_10) (v := (.ref a1)) rfl rfl rfl ?_
  refine go_iload_n (q := 12) X3 hx (hb hby d6_11) (v := (2 : Int32)) rfl rfl ?_
  have f4 : Arv Z h3 a1 kc .char (4 : Int32) [(.int x0), (.int x1), (.int x2), (.int x3)] dc := (f2.other W3 ne_2)
  refine go_caload (q := 13) (j := (2 : Int32)) (v := (.int x2)) X3 hx hZ e3 f4 (by decide) rfl (hb hby d6_12) rfl ?_
  refine go_istore (q := 15) X3 hx (hb hby d6_13) (l' := #[.val (.ref a1), .val (.int (2 : Int32)), .val (.ref a2), .val (.int (2 : Int32)), .val (.int (4 : Int32)), .val (.int (2 : Int32)), .val (.int x2)]) rfl rfl ?_
  refine go_iload (q := 17) X3 hx (hb hby d6_15) (v := x2) rfl rfl ?_
  refine go_sipush (q := 20) X3 hx (hb hby d6_17) (v := (255 : Int32)) (by decide) rfl ?_
  refine go_icmpY (q := 26) X3 hx (hb hby d6_20) (XT.ii_le_t hr_6) (by decide) (by decide) ?_
  refine go_aload_n (q := 27) X3 hx (hb hby d6_26) (v := (.ref a2)) rfl rfl rfl ?_
  refine go_iload_n (q := 28) X3 hx (hb hby d6_27) (v := (2 : Int32)) rfl rfl ?_
  refine go_iload (q := 30) X3 hx (hb hby d6_28) (v := x2) rfl rfl ?_
  refine go_i2b (q := 31) X3 hx (hb hby d6_30) (v := x2.toInt8.toInt32) rfl rfl ?_
  refine go_bastore (q := 32) (j := (2 : Int32)) (i := 2) (vs' := [(.int x0.toInt8.toInt32), (.int x1.toInt8.toInt32), (.int x2.toInt8.toInt32), (.int (0 : Int32))]) X3 hx hZ e3 A3 (by decide) (by decide) (show (2 : Nat) < 4 by decide) (own_narb _) rfl (hb hby d6_31) rfl ?_
  intro T5 h5 X5 e5 W5 A5
  have N5 := Fr.snoc X5 N3 g_3
  refine go_iinc (q := 35) X5 hx (hb hby d6_32) (x := (2 : Int32)) (v := (3 : Int32)) rfl (by first | rfl | decide) (l' := #[.val (.ref a1), .val (.int (3 : Int32)), .val (.ref a2), .val (.int (2 : Int32)), .val (.int (4 : Int32)), .val (.int (2 : Int32)), .val (.int x2)]) rfl rfl ?_
  refine go_iinc (q := 38) X5 hx (hb hby d6_35) (x := (2 : Int32)) (v := (3 : Int32)) rfl (by first | rfl | decide) (l' := #[.val (.ref a1), .val (.int (3 : Int32)), .val (.ref a2), .val (.int (3 : Int32)), .val (.int (4 : Int32)), .val (.int (2 : Int32)), .val (.int x2)]) rfl rfl ?_
  refine go_iinc (q := 41) X5 hx (hb hby d6_38) (x := (2 : Int32)) (v := (3 : Int32)) rfl (by first | rfl | decide) (l' := #[.val (.ref a1), .val (.int (3 : Int32)), .val (.ref a2), .val (.int (3 : Int32)), .val (.int (4 : Int32)), .val (.int (3 : Int32)), .val (.int x2)]) rfl rfl ?_
  refine go_goto (q := 3) X5 hx (hb hby d6_41) (by decide) (by decide) ?_
  refine go_iload (q := 5) X5 hx (hb hby d6_3) (v := (3 : Int32)) rfl rfl ?_
  refine go_iload (q := 7) X5 hx (hb hby d6_5) (v := (4 : Int32)) rfl rfl ?_
  refine go_icmpN (q := 10) X5 hx (hb hby d6_7) (XT.ii_ge_f (by decide)) rfl ?_
  refine go_aload_n (q := 11) X5 hx (hb hby d6_10) (v := (.ref a1)) rfl rfl rfl ?_
  refine go_iload_n (q := 12) X5 hx (hb hby d6_11) (v := (3 : Int32)) rfl rfl ?_
  have f6 : Arv Z h5 a1 kc .char (4 : Int32) [(.int x0), (.int x1), (.int x2), (.int x3)] dc := (f4.other W5 ne_2)
  refine go_caload (q := 13) (j := (3 : Int32)) (v := (.int x3)) X5 hx hZ e5 f6 (by decide) rfl (hb hby d6_12) rfl ?_
  refine go_istore (q := 15) X5 hx (hb hby d6_13) (l' := #[.val (.ref a1), .val (.int (3 : Int32)), .val (.ref a2), .val (.int (3 : Int32)), .val (.int (4 : Int32)), .val (.int (3 : Int32)), .val (.int x3)]) rfl rfl ?_
  refine go_iload (q := 17) X5 hx (hb hby d6_15) (v := x3) rfl rfl ?_
  refine go_sipush (q := 20) X5 hx (hb hby d6_17) (v := (255 : Int32)) (by decide) rfl ?_
  refine go_icmpY (q := 26) X5 hx (hb hby d6_20) (XT.ii_le_t hr_7) (by decide) (by decide) ?_
  refine go_aload_n (q := 27) X5 hx (hb hby d6_26) (v := (.ref a2)) rfl rfl rfl ?_
  refine go_iload_n (q := 28) X5 hx (hb hby d6_27) (v := (3 : Int32)) rfl rfl ?_
  refine go_iload (q := 30) X5 hx (hb hby d6_28) (v := x3) rfl rfl ?_
  refine go_i2b (q := 31) X5 hx (hb hby d6_30) (v := x3.toInt8.toInt32) rfl rfl ?_
  refine go_bastore (q := 32) (j := (3 : Int32)) (i := 3) (vs' := [(.int x0.toInt8.toInt32), (.int x1.toInt8.toInt32), (.int x2.toInt8.toInt32), (.int x3.toInt8.toInt32)]) X5 hx hZ e5 A5 (by decide) (by decide) (show (3 : Nat) < 4 by decide) (own_narb _) rfl (hb hby d6_31) rfl ?_
  intro T7 h7 X7 e7 W7 A7
  have N7 := Fr.snoc X7 N5 g_3
  refine go_iinc (q := 35) X7 hx (hb hby d6_32) (x := (3 : Int32)) (v := (4 : Int32)) rfl (by first | rfl | decide) (l' := #[.val (.ref a1), .val (.int (4 : Int32)), .val (.ref a2), .val (.int (3 : Int32)), .val (.int (4 : Int32)), .val (.int (3 : Int32)), .val (.int x3)]) rfl rfl ?_
  refine go_iinc (q := 38) X7 hx (hb hby d6_35) (x := (3 : Int32)) (v := (4 : Int32)) rfl (by first | rfl | decide) (l' := #[.val (.ref a1), .val (.int (4 : Int32)), .val (.ref a2), .val (.int (4 : Int32)), .val (.int (4 : Int32)), .val (.int (3 : Int32)), .val (.int x3)]) rfl rfl ?_
  refine go_iinc (q := 41) X7 hx (hb hby d6_38) (x := (3 : Int32)) (v := (4 : Int32)) rfl (by first | rfl | decide) (l' := #[.val (.ref a1), .val (.int (4 : Int32)), .val (.ref a2), .val (.int (4 : Int32)), .val (.int (4 : Int32)), .val (.int (4 : Int32)), .val (.int x3)]) rfl rfl ?_
  refine go_goto (q := 3) X7 hx (hb hby d6_41) (by decide) (by decide) ?_
  refine go_iload (q := 5) X7 hx (hb hby d6_3) (v := (4 : Int32)) rfl rfl ?_
  refine go_iload (q := 7) X7 hx (hb hby d6_5) (v := (4 : Int32)) rfl rfl ?_
  refine go_icmpY (q := 44) X7 hx (hb hby d6_7) (XT.ii_ge_t (by decide)) (by decide) (by decide) ?_
  refine go_iload (q := 46) X7 hx (hb hby d6_44) (v := (4 : Int32)) rfl rfl ?_
  refine go_retI X7 hx hret hlk e7 (hb hby d6_46) (by simp) rfl (by decide) (by decide) ?_
  exact ⟨rfl, N7, (((((Keep.refl h0 [a2]).wr W1 (Or.inl (List.mem_of_getElem? (i := 0) rfl))).wr W3 (Or.inl (List.mem_of_getElem? (i := 0) rfl))).wr W5 (Or.inl (List.mem_of_getElem? (i := 0) rfl))).wr W7 (Or.inl (List.mem_of_getElem? (i := 0) rfl))), A7⟩
set_option maxRecDepth 65536 in
set_option maxHeartbeats 40000000 in
theorem b6_1 (l : Launch) (Z : State) (a0 : Array Value) (hw : ∀ d ∈ tables_1, d.before a0 Z = true) (a1 : Addr) (kc : ClassId) (dc : Value) (a2 : Addr) (kb : ClassId) (x0 : Int32) (x1 : Int32) (x2 : Int32) (x3 : Int32) (h0 : Heap) (n0 : Nat) (O0 : Old Z n0 h0) (A_0 : Arv Z h0 a1 kc .char (4 : Int32) [(.int x0), (.int x1), (.int x2), (.int x3)] dc) (A_1 : Arv Z h0 a2 kb .byte (4 : Int32) [(.int (0 : Int32)), (.int (0 : Int32)), (.int (0 : Int32)), (.int (0 : Int32))] (.int (0 : Int32))) (ne_2 : a1 ≠ a2) (g_3 : n0 ≤ a2) (hr_4 : ((255 : Int32) < x0)) :
    Con l Z (⟨"java/lang/StringUTF16", "compress", "([CI[BII)I"⟩ : MethodName) jdk_52_method_21_code 7 (some .int) ({ frames := 0, cells := 0, slots := 0, locals := 0 } : Room) #[(.ref a1), (.int (0 : Int32)), (.ref a2), (.int (0 : Int32)), (.int (4 : Int32))] h0 (fun v h L => v = some (.int (0 : Int32)) ∧ Fr n0 L ∧ Keep h0 h [a2]) := by
  refine Con.of (plainFor_of_name pn_0) ?_
  intro p e s m below meth c s₁ hx hby hml hZ hown hnm hret hlk X0 e0
  have N0 := Fr.nil n0
  refine go_cast (g' := mkF m 0 #[.val (.ref a1), .val (.int (0 : Int32)), .val (.ref a2), .val (.int (0 : Int32)), .val (.int (4 : Int32)), .unset, .unset] []) ?_ (by first | (simp [entryFrame, mkF, argsToLocals, Value.category]; done) | rfl)
  refine go_iconst (q := 1) X0 hx (hb hby d6_0) (v := (0 : Int32)) (by decide) rfl ?_
  refine go_istore (q := 3) X0 hx (hb hby d6_1) (l' := #[.val (.ref a1), .val (.int (0 : Int32)), .val (.ref a2), .val (.int (0 : Int32)), .val (.int (4 : Int32)), .val (.int (0 : Int32)), .unset]) rfl rfl ?_
  refine go_iload (q := 5) X0 hx (hb hby d6_3) (v := (0 : Int32)) rfl rfl ?_
  refine go_iload (q := 7) X0 hx (hb hby d6_5) (v := (4 : Int32)) rfl rfl ?_
  refine go_icmpN (q := 10) X0 hx (hb hby d6_7) (XT.ii_ge_f (by decide)) rfl ?_
  refine go_aload_n (q := 11) X0 hx (hb hby d6_10) (v := (.ref a1)) rfl rfl rfl ?_
  refine go_iload_n (q := 12) X0 hx (hb hby d6_11) (v := (0 : Int32)) rfl rfl ?_
  refine go_caload (q := 13) (j := (0 : Int32)) (v := (.int x0)) X0 hx hZ e0 A_0 (by decide) rfl (hb hby d6_12) rfl ?_
  refine go_istore (q := 15) X0 hx (hb hby d6_13) (l' := #[.val (.ref a1), .val (.int (0 : Int32)), .val (.ref a2), .val (.int (0 : Int32)), .val (.int (4 : Int32)), .val (.int (0 : Int32)), .val (.int x0)]) rfl rfl ?_
  refine go_iload (q := 17) X0 hx (hb hby d6_15) (v := x0) rfl rfl ?_
  refine go_sipush (q := 20) X0 hx (hb hby d6_17) (v := (255 : Int32)) (by decide) rfl ?_
  refine go_icmpN (q := 23) X0 hx (hb hby d6_20) (XT.ii_le_f hr_4) rfl ?_
  refine go_iload (q := 25) X0 hx (hb hby d6_23) (v := (0 : Int32)) rfl rfl ?_
  refine go_retI X0 hx hret hlk e0 (hb hby d6_25) (by simp) rfl (by decide) (by decide) ?_
  exact ⟨rfl, N0, (Keep.refl h0 [a2])⟩
set_option maxRecDepth 65536 in
set_option maxHeartbeats 40000000 in
theorem b6_2 (l : Launch) (Z : State) (a0 : Array Value) (hw : ∀ d ∈ tables_1, d.before a0 Z = true) (a1 : Addr) (kc : ClassId) (dc : Value) (a2 : Addr) (kb : ClassId) (x0 : Int32) (x1 : Int32) (x2 : Int32) (x3 : Int32) (h0 : Heap) (n0 : Nat) (O0 : Old Z n0 h0) (A_0 : Arv Z h0 a1 kc .char (4 : Int32) [(.int x0), (.int x1), (.int x2), (.int x3)] dc) (A_1 : Arv Z h0 a2 kb .byte (4 : Int32) [(.int (0 : Int32)), (.int (0 : Int32)), (.int (0 : Int32)), (.int (0 : Int32))] (.int (0 : Int32))) (ne_2 : a1 ≠ a2) (g_3 : n0 ≤ a2) (hr_4 : (¬ (255 : Int32) < x0)) (hr_5 : ((255 : Int32) < x1)) :
    Con l Z (⟨"java/lang/StringUTF16", "compress", "([CI[BII)I"⟩ : MethodName) jdk_52_method_21_code 7 (some .int) ({ frames := 0, cells := 0, slots := 0, locals := 0 } : Room) #[(.ref a1), (.int (0 : Int32)), (.ref a2), (.int (0 : Int32)), (.int (4 : Int32))] h0 (fun v h L => v = some (.int (1 : Int32)) ∧ Fr n0 L ∧ Keep h0 h [a2]) := by
  refine Con.of (plainFor_of_name pn_0) ?_
  intro p e s m below meth c s₁ hx hby hml hZ hown hnm hret hlk X0 e0
  have N0 := Fr.nil n0
  refine go_cast (g' := mkF m 0 #[.val (.ref a1), .val (.int (0 : Int32)), .val (.ref a2), .val (.int (0 : Int32)), .val (.int (4 : Int32)), .unset, .unset] []) ?_ (by first | (simp [entryFrame, mkF, argsToLocals, Value.category]; done) | rfl)
  refine go_iconst (q := 1) X0 hx (hb hby d6_0) (v := (0 : Int32)) (by decide) rfl ?_
  refine go_istore (q := 3) X0 hx (hb hby d6_1) (l' := #[.val (.ref a1), .val (.int (0 : Int32)), .val (.ref a2), .val (.int (0 : Int32)), .val (.int (4 : Int32)), .val (.int (0 : Int32)), .unset]) rfl rfl ?_
  refine go_iload (q := 5) X0 hx (hb hby d6_3) (v := (0 : Int32)) rfl rfl ?_
  refine go_iload (q := 7) X0 hx (hb hby d6_5) (v := (4 : Int32)) rfl rfl ?_
  refine go_icmpN (q := 10) X0 hx (hb hby d6_7) (XT.ii_ge_f (by decide)) rfl ?_
  refine go_aload_n (q := 11) X0 hx (hb hby d6_10) (v := (.ref a1)) rfl rfl rfl ?_
  refine go_iload_n (q := 12) X0 hx (hb hby d6_11) (v := (0 : Int32)) rfl rfl ?_
  refine go_caload (q := 13) (j := (0 : Int32)) (v := (.int x0)) X0 hx hZ e0 A_0 (by decide) rfl (hb hby d6_12) rfl ?_
  refine go_istore (q := 15) X0 hx (hb hby d6_13) (l' := #[.val (.ref a1), .val (.int (0 : Int32)), .val (.ref a2), .val (.int (0 : Int32)), .val (.int (4 : Int32)), .val (.int (0 : Int32)), .val (.int x0)]) rfl rfl ?_
  refine go_iload (q := 17) X0 hx (hb hby d6_15) (v := x0) rfl rfl ?_
  refine go_sipush (q := 20) X0 hx (hb hby d6_17) (v := (255 : Int32)) (by decide) rfl ?_
  refine go_icmpY (q := 26) X0 hx (hb hby d6_20) (XT.ii_le_t hr_4) (by decide) (by decide) ?_
  refine go_aload_n (q := 27) X0 hx (hb hby d6_26) (v := (.ref a2)) rfl rfl rfl ?_
  refine go_iload_n (q := 28) X0 hx (hb hby d6_27) (v := (0 : Int32)) rfl rfl ?_
  refine go_iload (q := 30) X0 hx (hb hby d6_28) (v := x0) rfl rfl ?_
  refine go_i2b (q := 31) X0 hx (hb hby d6_30) (v := x0.toInt8.toInt32) rfl rfl ?_
  refine go_bastore (q := 32) (j := (0 : Int32)) (i := 0) (vs' := [(.int x0.toInt8.toInt32), (.int (0 : Int32)), (.int (0 : Int32)), (.int (0 : Int32))]) X0 hx hZ e0 A_1 (by decide) (by decide) (show (0 : Nat) < 4 by decide) (own_narb _) rfl (hb hby d6_31) rfl ?_
  intro T1 h1 X1 e1 W1 A1
  have N1 := Fr.snoc X1 N0 g_3
  refine go_iinc (q := 35) X1 hx (hb hby d6_32) (x := (0 : Int32)) (v := (1 : Int32)) rfl (by first | rfl | decide) (l' := #[.val (.ref a1), .val (.int (1 : Int32)), .val (.ref a2), .val (.int (0 : Int32)), .val (.int (4 : Int32)), .val (.int (0 : Int32)), .val (.int x0)]) rfl rfl ?_
  refine go_iinc (q := 38) X1 hx (hb hby d6_35) (x := (0 : Int32)) (v := (1 : Int32)) rfl (by first | rfl | decide) (l' := #[.val (.ref a1), .val (.int (1 : Int32)), .val (.ref a2), .val (.int (1 : Int32)), .val (.int (4 : Int32)), .val (.int (0 : Int32)), .val (.int x0)]) rfl rfl ?_
  refine go_iinc (q := 41) X1 hx (hb hby d6_38) (x := (0 : Int32)) (v := (1 : Int32)) rfl (by first | rfl | decide) (l' := #[.val (.ref a1), .val (.int (1 : Int32)), .val (.ref a2), .val (.int (1 : Int32)), .val (.int (4 : Int32)), .val (.int (1 : Int32)), .val (.int x0)]) rfl rfl ?_
  refine go_goto (q := 3) X1 hx (hb hby d6_41) (by decide) (by decide) ?_
  refine go_iload (q := 5) X1 hx (hb hby d6_3) (v := (1 : Int32)) rfl rfl ?_
  refine go_iload (q := 7) X1 hx (hb hby d6_5) (v := (4 : Int32)) rfl rfl ?_
  refine go_icmpN (q := 10) X1 hx (hb hby d6_7) (XT.ii_ge_f (by decide)) rfl ?_
  refine go_aload_n (q := 11) X1 hx (hb hby d6_10) (v := (.ref a1)) rfl rfl rfl ?_
  refine go_iload_n (q := 12) X1 hx (hb hby d6_11) (v := (1 : Int32)) rfl rfl ?_
  have f2 : Arv Z h1 a1 kc .char (4 : Int32) [(.int x0), (.int x1), (.int x2), (.int x3)] dc := (A_0.other W1 ne_2)
  refine go_caload (q := 13) (j := (1 : Int32)) (v := (.int x1)) X1 hx hZ e1 f2 (by decide) rfl (hb hby d6_12) rfl ?_
  refine go_istore (q := 15) X1 hx (hb hby d6_13) (l' := #[.val (.ref a1), .val (.int (1 : Int32)), .val (.ref a2), .val (.int (1 : Int32)), .val (.int (4 : Int32)), .val (.int (1 : Int32)), .val (.int x1)]) rfl rfl ?_
  refine go_iload (q := 17) X1 hx (hb hby d6_15) (v := x1) rfl rfl ?_
  refine go_sipush (q := 20) X1 hx (hb hby d6_17) (v := (255 : Int32)) (by decide) rfl ?_
  refine go_icmpN (q := 23) X1 hx (hb hby d6_20) (XT.ii_le_f hr_5) rfl ?_
  refine go_iload (q := 25) X1 hx (hb hby d6_23) (v := (1 : Int32)) rfl rfl ?_
  refine go_retI X1 hx hret hlk e1 (hb hby d6_25) (by simp) rfl (by decide) (by decide) ?_
  exact ⟨rfl, N1, ((Keep.refl h0 [a2]).wr W1 (Or.inl (List.mem_of_getElem? (i := 0) rfl)))⟩
set_option maxRecDepth 65536 in
set_option maxHeartbeats 40000000 in
theorem b6_3 (l : Launch) (Z : State) (a0 : Array Value) (hw : ∀ d ∈ tables_1, d.before a0 Z = true) (a1 : Addr) (kc : ClassId) (dc : Value) (a2 : Addr) (kb : ClassId) (x0 : Int32) (x1 : Int32) (x2 : Int32) (x3 : Int32) (h0 : Heap) (n0 : Nat) (O0 : Old Z n0 h0) (A_0 : Arv Z h0 a1 kc .char (4 : Int32) [(.int x0), (.int x1), (.int x2), (.int x3)] dc) (A_1 : Arv Z h0 a2 kb .byte (4 : Int32) [(.int (0 : Int32)), (.int (0 : Int32)), (.int (0 : Int32)), (.int (0 : Int32))] (.int (0 : Int32))) (ne_2 : a1 ≠ a2) (g_3 : n0 ≤ a2) (hr_4 : (¬ (255 : Int32) < x0)) (hr_5 : (¬ (255 : Int32) < x1)) (hr_6 : ((255 : Int32) < x2)) :
    Con l Z (⟨"java/lang/StringUTF16", "compress", "([CI[BII)I"⟩ : MethodName) jdk_52_method_21_code 7 (some .int) ({ frames := 0, cells := 0, slots := 0, locals := 0 } : Room) #[(.ref a1), (.int (0 : Int32)), (.ref a2), (.int (0 : Int32)), (.int (4 : Int32))] h0 (fun v h L => v = some (.int (2 : Int32)) ∧ Fr n0 L ∧ Keep h0 h [a2]) := by
  refine Con.of (plainFor_of_name pn_0) ?_
  intro p e s m below meth c s₁ hx hby hml hZ hown hnm hret hlk X0 e0
  have N0 := Fr.nil n0
  refine go_cast (g' := mkF m 0 #[.val (.ref a1), .val (.int (0 : Int32)), .val (.ref a2), .val (.int (0 : Int32)), .val (.int (4 : Int32)), .unset, .unset] []) ?_ (by first | (simp [entryFrame, mkF, argsToLocals, Value.category]; done) | rfl)
  refine go_iconst (q := 1) X0 hx (hb hby d6_0) (v := (0 : Int32)) (by decide) rfl ?_
  refine go_istore (q := 3) X0 hx (hb hby d6_1) (l' := #[.val (.ref a1), .val (.int (0 : Int32)), .val (.ref a2), .val (.int (0 : Int32)), .val (.int (4 : Int32)), .val (.int (0 : Int32)), .unset]) rfl rfl ?_
  refine go_iload (q := 5) X0 hx (hb hby d6_3) (v := (0 : Int32)) rfl rfl ?_
  refine go_iload (q := 7) X0 hx (hb hby d6_5) (v := (4 : Int32)) rfl rfl ?_
  refine go_icmpN (q := 10) X0 hx (hb hby d6_7) (XT.ii_ge_f (by decide)) rfl ?_
  refine go_aload_n (q := 11) X0 hx (hb hby d6_10) (v := (.ref a1)) rfl rfl rfl ?_
  refine go_iload_n (q := 12) X0 hx (hb hby d6_11) (v := (0 : Int32)) rfl rfl ?_
  refine go_caload (q := 13) (j := (0 : Int32)) (v := (.int x0)) X0 hx hZ e0 A_0 (by decide) rfl (hb hby d6_12) rfl ?_
  refine go_istore (q := 15) X0 hx (hb hby d6_13) (l' := #[.val (.ref a1), .val (.int (0 : Int32)), .val (.ref a2), .val (.int (0 : Int32)), .val (.int (4 : Int32)), .val (.int (0 : Int32)), .val (.int x0)]) rfl rfl ?_
  refine go_iload (q := 17) X0 hx (hb hby d6_15) (v := x0) rfl rfl ?_
  refine go_sipush (q := 20) X0 hx (hb hby d6_17) (v := (255 : Int32)) (by decide) rfl ?_
  refine go_icmpY (q := 26) X0 hx (hb hby d6_20) (XT.ii_le_t hr_4) (by decide) (by decide) ?_
  refine go_aload_n (q := 27) X0 hx (hb hby d6_26) (v := (.ref a2)) rfl rfl rfl ?_
  refine go_iload_n (q := 28) X0 hx (hb hby d6_27) (v := (0 : Int32)) rfl rfl ?_
  refine go_iload (q := 30) X0 hx (hb hby d6_28) (v := x0) rfl rfl ?_
  refine go_i2b (q := 31) X0 hx (hb hby d6_30) (v := x0.toInt8.toInt32) rfl rfl ?_
  refine go_bastore (q := 32) (j := (0 : Int32)) (i := 0) (vs' := [(.int x0.toInt8.toInt32), (.int (0 : Int32)), (.int (0 : Int32)), (.int (0 : Int32))]) X0 hx hZ e0 A_1 (by decide) (by decide) (show (0 : Nat) < 4 by decide) (own_narb _) rfl (hb hby d6_31) rfl ?_
  intro T1 h1 X1 e1 W1 A1
  have N1 := Fr.snoc X1 N0 g_3
  refine go_iinc (q := 35) X1 hx (hb hby d6_32) (x := (0 : Int32)) (v := (1 : Int32)) rfl (by first | rfl | decide) (l' := #[.val (.ref a1), .val (.int (1 : Int32)), .val (.ref a2), .val (.int (0 : Int32)), .val (.int (4 : Int32)), .val (.int (0 : Int32)), .val (.int x0)]) rfl rfl ?_
  refine go_iinc (q := 38) X1 hx (hb hby d6_35) (x := (0 : Int32)) (v := (1 : Int32)) rfl (by first | rfl | decide) (l' := #[.val (.ref a1), .val (.int (1 : Int32)), .val (.ref a2), .val (.int (1 : Int32)), .val (.int (4 : Int32)), .val (.int (0 : Int32)), .val (.int x0)]) rfl rfl ?_
  refine go_iinc (q := 41) X1 hx (hb hby d6_38) (x := (0 : Int32)) (v := (1 : Int32)) rfl (by first | rfl | decide) (l' := #[.val (.ref a1), .val (.int (1 : Int32)), .val (.ref a2), .val (.int (1 : Int32)), .val (.int (4 : Int32)), .val (.int (1 : Int32)), .val (.int x0)]) rfl rfl ?_
  refine go_goto (q := 3) X1 hx (hb hby d6_41) (by decide) (by decide) ?_
  refine go_iload (q := 5) X1 hx (hb hby d6_3) (v := (1 : Int32)) rfl rfl ?_
  refine go_iload (q := 7) X1 hx (hb hby d6_5) (v := (4 : Int32)) rfl rfl ?_
  refine go_icmpN (q := 10) X1 hx (hb hby d6_7) (XT.ii_ge_f (by decide)) rfl ?_
  refine go_aload_n (q := 11) X1 hx (hb hby d6_10) (v := (.ref a1)) rfl rfl rfl ?_
  refine go_iload_n (q := 12) X1 hx (hb hby d6_11) (v := (1 : Int32)) rfl rfl ?_
  have f2 : Arv Z h1 a1 kc .char (4 : Int32) [(.int x0), (.int x1), (.int x2), (.int x3)] dc := (A_0.other W1 ne_2)
  refine go_caload (q := 13) (j := (1 : Int32)) (v := (.int x1)) X1 hx hZ e1 f2 (by decide) rfl (hb hby d6_12) rfl ?_
  refine go_istore (q := 15) X1 hx (hb hby d6_13) (l' := #[.val (.ref a1), .val (.int (1 : Int32)), .val (.ref a2), .val (.int (1 : Int32)), .val (.int (4 : Int32)), .val (.int (1 : Int32)), .val (.int x1)]) rfl rfl ?_
  refine go_iload (q := 17) X1 hx (hb hby d6_15) (v := x1) rfl rfl ?_
  refine go_sipush (q := 20) X1 hx (hb hby d6_17) (v := (255 : Int32)) (by decide) rfl ?_
  refine go_icmpY (q := 26) X1 hx (hb hby d6_20) (XT.ii_le_t hr_5) (by decide) (by decide) ?_
  refine go_aload_n (q := 27) X1 hx (hb hby d6_26) (v := (.ref a2)) rfl rfl rfl ?_
  refine go_iload_n (q := 28) X1 hx (hb hby d6_27) (v := (1 : Int32)) rfl rfl ?_
  refine go_iload (q := 30) X1 hx (hb hby d6_28) (v := x1) rfl rfl ?_
  refine go_i2b (q := 31) X1 hx (hb hby d6_30) (v := x1.toInt8.toInt32) rfl rfl ?_
  refine go_bastore (q := 32) (j := (1 : Int32)) (i := 1) (vs' := [(.int x0.toInt8.toInt32), (.int x1.toInt8.toInt32), (.int (0 : Int32)), (.int (0 : Int32))]) X1 hx hZ e1 A1 (by decide) (by decide) (show (1 : Nat) < 4 by decide) (own_narb _) rfl (hb hby d6_31) rfl ?_
  intro T3 h3 X3 e3 W3 A3
  have N3 := Fr.snoc X3 N1 g_3
  refine go_iinc (q := 35) X3 hx (hb hby d6_32) (x := (1 : Int32)) (v := (2 : Int32)) rfl (by first | rfl | decide) (l' := #[.val (.ref a1), .val (.int (2 : Int32)), .val (.ref a2), .val (.int (1 : Int32)), .val (.int (4 : Int32)), .val (.int (1 : Int32)), .val (.int x1)]) rfl rfl ?_
  refine go_iinc (q := 38) X3 hx (hb hby d6_35) (x := (1 : Int32)) (v := (2 : Int32)) rfl (by first | rfl | decide) (l' := #[.val (.ref a1), .val (.int (2 : Int32)), .val (.ref a2), .val (.int (2 : Int32)), .val (.int (4 : Int32)), .val (.int (1 : Int32)), .val (.int x1)]) rfl rfl ?_
  refine go_iinc (q := 41) X3 hx (hb hby d6_38) (x := (1 : Int32)) (v := (2 : Int32)) rfl (by first | rfl | decide) (l' := #[.val (.ref a1), .val (.int (2 : Int32)), .val (.ref a2), .val (.int (2 : Int32)), .val (.int (4 : Int32)), .val (.int (2 : Int32)), .val (.int x1)]) rfl rfl ?_
  refine go_goto (q := 3) X3 hx (hb hby d6_41) (by decide) (by decide) ?_
  refine go_iload (q := 5) X3 hx (hb hby d6_3) (v := (2 : Int32)) rfl rfl ?_
  refine go_iload (q := 7) X3 hx (hb hby d6_5) (v := (4 : Int32)) rfl rfl ?_
  refine go_icmpN (q := 10) X3 hx (hb hby d6_7) (XT.ii_ge_f (by decide)) rfl ?_
  refine go_aload_n (q := 11) X3 hx (hb hby d6_10) (v := (.ref a1)) rfl rfl rfl ?_
  refine go_iload_n (q := 12) X3 hx (hb hby d6_11) (v := (2 : Int32)) rfl rfl ?_
  have f4 : Arv Z h3 a1 kc .char (4 : Int32) [(.int x0), (.int x1), (.int x2), (.int x3)] dc := (f2.other W3 ne_2)
  refine go_caload (q := 13) (j := (2 : Int32)) (v := (.int x2)) X3 hx hZ e3 f4 (by decide) rfl (hb hby d6_12) rfl ?_
  refine go_istore (q := 15) X3 hx (hb hby d6_13) (l' := #[.val (.ref a1), .val (.int (2 : Int32)), .val (.ref a2), .val (.int (2 : Int32)), .val (.int (4 : Int32)), .val (.int (2 : Int32)), .val (.int x2)]) rfl rfl ?_
  refine go_iload (q := 17) X3 hx (hb hby d6_15) (v := x2) rfl rfl ?_
  refine go_sipush (q := 20) X3 hx (hb hby d6_17) (v := (255 : Int32)) (by decide) rfl ?_
  refine go_icmpN (q := 23) X3 hx (hb hby d6_20) (XT.ii_le_f hr_6) rfl ?_
  refine go_iload (q := 25) X3 hx (hb hby d6_23) (v := (2 : Int32)) rfl rfl ?_
  refine go_retI X3 hx hret hlk e3 (hb hby d6_25) (by simp) rfl (by decide) (by decide) ?_
  exact ⟨rfl, N3, (((Keep.refl h0 [a2]).wr W1 (Or.inl (List.mem_of_getElem? (i := 0) rfl))).wr W3 (Or.inl (List.mem_of_getElem? (i := 0) rfl)))⟩
set_option maxRecDepth 65536 in
set_option maxHeartbeats 40000000 in
theorem b6_4 (l : Launch) (Z : State) (a0 : Array Value) (hw : ∀ d ∈ tables_1, d.before a0 Z = true) (a1 : Addr) (kc : ClassId) (dc : Value) (a2 : Addr) (kb : ClassId) (x0 : Int32) (x1 : Int32) (x2 : Int32) (x3 : Int32) (h0 : Heap) (n0 : Nat) (O0 : Old Z n0 h0) (A_0 : Arv Z h0 a1 kc .char (4 : Int32) [(.int x0), (.int x1), (.int x2), (.int x3)] dc) (A_1 : Arv Z h0 a2 kb .byte (4 : Int32) [(.int (0 : Int32)), (.int (0 : Int32)), (.int (0 : Int32)), (.int (0 : Int32))] (.int (0 : Int32))) (ne_2 : a1 ≠ a2) (g_3 : n0 ≤ a2) (hr_4 : (¬ (255 : Int32) < x0)) (hr_5 : (¬ (255 : Int32) < x1)) (hr_6 : (¬ (255 : Int32) < x2)) (hr_7 : ((255 : Int32) < x3)) :
    Con l Z (⟨"java/lang/StringUTF16", "compress", "([CI[BII)I"⟩ : MethodName) jdk_52_method_21_code 7 (some .int) ({ frames := 0, cells := 0, slots := 0, locals := 0 } : Room) #[(.ref a1), (.int (0 : Int32)), (.ref a2), (.int (0 : Int32)), (.int (4 : Int32))] h0 (fun v h L => v = some (.int (3 : Int32)) ∧ Fr n0 L ∧ Keep h0 h [a2]) := by
  refine Con.of (plainFor_of_name pn_0) ?_
  intro p e s m below meth c s₁ hx hby hml hZ hown hnm hret hlk X0 e0
  have N0 := Fr.nil n0
  refine go_cast (g' := mkF m 0 #[.val (.ref a1), .val (.int (0 : Int32)), .val (.ref a2), .val (.int (0 : Int32)), .val (.int (4 : Int32)), .unset, .unset] []) ?_ (by first | (simp [entryFrame, mkF, argsToLocals, Value.category]; done) | rfl)
  refine go_iconst (q := 1) X0 hx (hb hby d6_0) (v := (0 : Int32)) (by decide) rfl ?_
  refine go_istore (q := 3) X0 hx (hb hby d6_1) (l' := #[.val (.ref a1), .val (.int (0 : Int32)), .val (.ref a2), .val (.int (0 : Int32)), .val (.int (4 : Int32)), .val (.int (0 : Int32)), .unset]) rfl rfl ?_
  refine go_iload (q := 5) X0 hx (hb hby d6_3) (v := (0 : Int32)) rfl rfl ?_
  refine go_iload (q := 7) X0 hx (hb hby d6_5) (v := (4 : Int32)) rfl rfl ?_
  refine go_icmpN (q := 10) X0 hx (hb hby d6_7) (XT.ii_ge_f (by decide)) rfl ?_
  refine go_aload_n (q := 11) X0 hx (hb hby d6_10) (v := (.ref a1)) rfl rfl rfl ?_
  refine go_iload_n (q := 12) X0 hx (hb hby d6_11) (v := (0 : Int32)) rfl rfl ?_
  refine go_caload (q := 13) (j := (0 : Int32)) (v := (.int x0)) X0 hx hZ e0 A_0 (by decide) rfl (hb hby d6_12) rfl ?_
  refine go_istore (q := 15) X0 hx (hb hby d6_13) (l' := #[.val (.ref a1), .val (.int (0 : Int32)), .val (.ref a2), .val (.int (0 : Int32)), .val (.int (4 : Int32)), .val (.int (0 : Int32)), .val (.int x0)]) rfl rfl ?_
  refine go_iload (q := 17) X0 hx (hb hby d6_15) (v := x0) rfl rfl ?_
  refine go_sipush (q := 20) X0 hx (hb hby d6_17) (v := (255 : Int32)) (by decide) rfl ?_
  refine go_icmpY (q := 26) X0 hx (hb hby d6_20) (XT.ii_le_t hr_4) (by decide) (by decide) ?_
  refine go_aload_n (q := 27) X0 hx (hb hby d6_26) (v := (.ref a2)) rfl rfl rfl ?_
  refine go_iload_n (q := 28) X0 hx (hb hby d6_27) (v := (0 : Int32)) rfl rfl ?_
  refine go_iload (q := 30) X0 hx (hb hby d6_28) (v := x0) rfl rfl ?_
  refine go_i2b (q := 31) X0 hx (hb hby d6_30) (v := x0.toInt8.toInt32) rfl rfl ?_
  refine go_bastore (q := 32) (j := (0 : Int32)) (i := 0) (vs' := [(.int x0.toInt8.toInt32), (.int (0 : Int32)), (.int (0 : Int32)), (.int (0 : Int32))]) X0 hx hZ e0 A_1 (by decide) (by decide) (show (0 : Nat) < 4 by decide) (own_narb _) rfl (hb hby d6_31) rfl ?_
  intro T1 h1 X1 e1 W1 A1
  have N1 := Fr.snoc X1 N0 g_3
  refine go_iinc (q := 35) X1 hx (hb hby d6_32) (x := (0 : Int32)) (v := (1 : Int32)) rfl (by first | rfl | decide) (l' := #[.val (.ref a1), .val (.int (1 : Int32)), .val (.ref a2), .val (.int (0 : Int32)), .val (.int (4 : Int32)), .val (.int (0 : Int32)), .val (.int x0)]) rfl rfl ?_
  refine go_iinc (q := 38) X1 hx (hb hby d6_35) (x := (0 : Int32)) (v := (1 : Int32)) rfl (by first | rfl | decide) (l' := #[.val (.ref a1), .val (.int (1 : Int32)), .val (.ref a2), .val (.int (1 : Int32)), .val (.int (4 : Int32)), .val (.int (0 : Int32)), .val (.int x0)]) rfl rfl ?_
  refine go_iinc (q := 41) X1 hx (hb hby d6_38) (x := (0 : Int32)) (v := (1 : Int32)) rfl (by first | rfl | decide) (l' := #[.val (.ref a1), .val (.int (1 : Int32)), .val (.ref a2), .val (.int (1 : Int32)), .val (.int (4 : Int32)), .val (.int (1 : Int32)), .val (.int x0)]) rfl rfl ?_
  refine go_goto (q := 3) X1 hx (hb hby d6_41) (by decide) (by decide) ?_
  refine go_iload (q := 5) X1 hx (hb hby d6_3) (v := (1 : Int32)) rfl rfl ?_
  refine go_iload (q := 7) X1 hx (hb hby d6_5) (v := (4 : Int32)) rfl rfl ?_
  refine go_icmpN (q := 10) X1 hx (hb hby d6_7) (XT.ii_ge_f (by decide)) rfl ?_
  refine go_aload_n (q := 11) X1 hx (hb hby d6_10) (v := (.ref a1)) rfl rfl rfl ?_
  refine go_iload_n (q := 12) X1 hx (hb hby d6_11) (v := (1 : Int32)) rfl rfl ?_
  have f2 : Arv Z h1 a1 kc .char (4 : Int32) [(.int x0), (.int x1), (.int x2), (.int x3)] dc := (A_0.other W1 ne_2)
  refine go_caload (q := 13) (j := (1 : Int32)) (v := (.int x1)) X1 hx hZ e1 f2 (by decide) rfl (hb hby d6_12) rfl ?_
  refine go_istore (q := 15) X1 hx (hb hby d6_13) (l' := #[.val (.ref a1), .val (.int (1 : Int32)), .val (.ref a2), .val (.int (1 : Int32)), .val (.int (4 : Int32)), .val (.int (1 : Int32)), .val (.int x1)]) rfl rfl ?_
  refine go_iload (q := 17) X1 hx (hb hby d6_15) (v := x1) rfl rfl ?_
  refine go_sipush (q := 20) X1 hx (hb hby d6_17) (v := (255 : Int32)) (by decide) rfl ?_
  refine go_icmpY (q := 26) X1 hx (hb hby d6_20) (XT.ii_le_t hr_5) (by decide) (by decide) ?_
  refine go_aload_n (q := 27) X1 hx (hb hby d6_26) (v := (.ref a2)) rfl rfl rfl ?_
  refine go_iload_n (q := 28) X1 hx (hb hby d6_27) (v := (1 : Int32)) rfl rfl ?_
  refine go_iload (q := 30) X1 hx (hb hby d6_28) (v := x1) rfl rfl ?_
  refine go_i2b (q := 31) X1 hx (hb hby d6_30) (v := x1.toInt8.toInt32) rfl rfl ?_
  refine go_bastore (q := 32) (j := (1 : Int32)) (i := 1) (vs' := [(.int x0.toInt8.toInt32), (.int x1.toInt8.toInt32), (.int (0 : Int32)), (.int (0 : Int32))]) X1 hx hZ e1 A1 (by decide) (by decide) (show (1 : Nat) < 4 by decide) (own_narb _) rfl (hb hby d6_31) rfl ?_
  intro T3 h3 X3 e3 W3 A3
  have N3 := Fr.snoc X3 N1 g_3
  refine go_iinc (q := 35) X3 hx (hb hby d6_32) (x := (1 : Int32)) (v := (2 : Int32)) rfl (by first | rfl | decide) (l' := #[.val (.ref a1), .val (.int (2 : Int32)), .val (.ref a2), .val (.int (1 : Int32)), .val (.int (4 : Int32)), .val (.int (1 : Int32)), .val (.int x1)]) rfl rfl ?_
  refine go_iinc (q := 38) X3 hx (hb hby d6_35) (x := (1 : Int32)) (v := (2 : Int32)) rfl (by first | rfl | decide) (l' := #[.val (.ref a1), .val (.int (2 : Int32)), .val (.ref a2), .val (.int (2 : Int32)), .val (.int (4 : Int32)), .val (.int (1 : Int32)), .val (.int x1)]) rfl rfl ?_
  refine go_iinc (q := 41) X3 hx (hb hby d6_38) (x := (1 : Int32)) (v := (2 : Int32)) rfl (by first | rfl | decide) (l' := #[.val (.ref a1), .val (.int (2 : Int32)), .val (.ref a2), .val (.int (2 : Int32)), .val (.int (4 : Int32)), .val (.int (2 : Int32)), .val (.int x1)]) rfl rfl ?_
  refine go_goto (q := 3) X3 hx (hb hby d6_41) (by decide) (by decide) ?_
  refine go_iload (q := 5) X3 hx (hb hby d6_3) (v := (2 : Int32)) rfl rfl ?_
  refine go_iload (q := 7) X3 hx (hb hby d6_5) (v := (4 : Int32)) rfl rfl ?_
  refine go_icmpN (q := 10) X3 hx (hb hby d6_7) (XT.ii_ge_f (by decide)) rfl ?_
  refine go_aload_n (q := 11) X3 hx (hb hby d6_10) (v := (.ref a1)) rfl rfl rfl ?_
  refine go_iload_n (q := 12) X3 hx (hb hby d6_11) (v := (2 : Int32)) rfl rfl ?_
  have f4 : Arv Z h3 a1 kc .char (4 : Int32) [(.int x0), (.int x1), (.int x2), (.int x3)] dc := (f2.other W3 ne_2)
  refine go_caload (q := 13) (j := (2 : Int32)) (v := (.int x2)) X3 hx hZ e3 f4 (by decide) rfl (hb hby d6_12) rfl ?_
  refine go_istore (q := 15) X3 hx (hb hby d6_13) (l' := #[.val (.ref a1), .val (.int (2 : Int32)), .val (.ref a2), .val (.int (2 : Int32)), .val (.int (4 : Int32)), .val (.int (2 : Int32)), .val (.int x2)]) rfl rfl ?_
  refine go_iload (q := 17) X3 hx (hb hby d6_15) (v := x2) rfl rfl ?_
  refine go_sipush (q := 20) X3 hx (hb hby d6_17) (v := (255 : Int32)) (by decide) rfl ?_
  refine go_icmpY (q := 26) X3 hx (hb hby d6_20) (XT.ii_le_t hr_6) (by decide) (by decide) ?_
  refine go_aload_n (q := 27) X3 hx (hb hby d6_26) (v := (.ref a2)) rfl rfl rfl ?_
  refine go_iload_n (q := 28) X3 hx (hb hby d6_27) (v := (2 : Int32)) rfl rfl ?_
  refine go_iload (q := 30) X3 hx (hb hby d6_28) (v := x2) rfl rfl ?_
  refine go_i2b (q := 31) X3 hx (hb hby d6_30) (v := x2.toInt8.toInt32) rfl rfl ?_
  refine go_bastore (q := 32) (j := (2 : Int32)) (i := 2) (vs' := [(.int x0.toInt8.toInt32), (.int x1.toInt8.toInt32), (.int x2.toInt8.toInt32), (.int (0 : Int32))]) X3 hx hZ e3 A3 (by decide) (by decide) (show (2 : Nat) < 4 by decide) (own_narb _) rfl (hb hby d6_31) rfl ?_
  intro T5 h5 X5 e5 W5 A5
  have N5 := Fr.snoc X5 N3 g_3
  refine go_iinc (q := 35) X5 hx (hb hby d6_32) (x := (2 : Int32)) (v := (3 : Int32)) rfl (by first | rfl | decide) (l' := #[.val (.ref a1), .val (.int (3 : Int32)), .val (.ref a2), .val (.int (2 : Int32)), .val (.int (4 : Int32)), .val (.int (2 : Int32)), .val (.int x2)]) rfl rfl ?_
  refine go_iinc (q := 38) X5 hx (hb hby d6_35) (x := (2 : Int32)) (v := (3 : Int32)) rfl (by first | rfl | decide) (l' := #[.val (.ref a1), .val (.int (3 : Int32)), .val (.ref a2), .val (.int (3 : Int32)), .val (.int (4 : Int32)), .val (.int (2 : Int32)), .val (.int x2)]) rfl rfl ?_
  refine go_iinc (q := 41) X5 hx (hb hby d6_38) (x := (2 : Int32)) (v := (3 : Int32)) rfl (by first | rfl | decide) (l' := #[.val (.ref a1), .val (.int (3 : Int32)), .val (.ref a2), .val (.int (3 : Int32)), .val (.int (4 : Int32)), .val (.int (3 : Int32)), .val (.int x2)]) rfl rfl ?_
  refine go_goto (q := 3) X5 hx (hb hby d6_41) (by decide) (by decide) ?_
  refine go_iload (q := 5) X5 hx (hb hby d6_3) (v := (3 : Int32)) rfl rfl ?_
  refine go_iload (q := 7) X5 hx (hb hby d6_5) (v := (4 : Int32)) rfl rfl ?_
  refine go_icmpN (q := 10) X5 hx (hb hby d6_7) (XT.ii_ge_f (by decide)) rfl ?_
  refine go_aload_n (q := 11) X5 hx (hb hby d6_10) (v := (.ref a1)) rfl rfl rfl ?_
  refine go_iload_n (q := 12) X5 hx (hb hby d6_11) (v := (3 : Int32)) rfl rfl ?_
  have f6 : Arv Z h5 a1 kc .char (4 : Int32) [(.int x0), (.int x1), (.int x2), (.int x3)] dc := (f4.other W5 ne_2)
  refine go_caload (q := 13) (j := (3 : Int32)) (v := (.int x3)) X5 hx hZ e5 f6 (by decide) rfl (hb hby d6_12) rfl ?_
  refine go_istore (q := 15) X5 hx (hb hby d6_13) (l' := #[.val (.ref a1), .val (.int (3 : Int32)), .val (.ref a2), .val (.int (3 : Int32)), .val (.int (4 : Int32)), .val (.int (3 : Int32)), .val (.int x3)]) rfl rfl ?_
  refine go_iload (q := 17) X5 hx (hb hby d6_15) (v := x3) rfl rfl ?_
  refine go_sipush (q := 20) X5 hx (hb hby d6_17) (v := (255 : Int32)) (by decide) rfl ?_
  refine go_icmpN (q := 23) X5 hx (hb hby d6_20) (XT.ii_le_f hr_7) rfl ?_
  refine go_iload (q := 25) X5 hx (hb hby d6_23) (v := (3 : Int32)) rfl rfl ?_
  refine go_retI X5 hx hret hlk e5 (hb hby d6_25) (by simp) rfl (by decide) (by decide) ?_
  exact ⟨rfl, N5, ((((Keep.refl h0 [a2]).wr W1 (Or.inl (List.mem_of_getElem? (i := 0) rfl))).wr W3 (Or.inl (List.mem_of_getElem? (i := 0) rfl))).wr W5 (Or.inl (List.mem_of_getElem? (i := 0) rfl)))⟩
set_option maxRecDepth 65536 in
set_option maxHeartbeats 40000000 in
theorem b11 (l : Launch) (Z : State) (a0 : Array Value) (hw : ∀ d ∈ tables_1, d.before a0 Z = true)  (h0 : Heap) (n0 : Nat) (O0 : Old Z n0 h0)  :
    Con l Z (⟨"java/lang/StringUTF16", "newBytesLength", "(I)I"⟩ : MethodName) jdk_52_method_3_code 1 (some .int) ({ frames := 0, cells := 0, slots := 0, locals := 0 } : Room) #[(.int (4 : Int32))] h0 (fun v h L => v = some (.int (8 : Int32)) ∧ Fr n0 L ∧ Keep h0 h []) := by
  refine Con.of (plainFor_of_name pn_0) ?_
  intro p e s m below meth c s₁ hx hby hml hZ hown hnm hret hlk X0 e0
  have N0 := Fr.nil n0
  refine go_cast (g' := mkF m 0 #[.val (.int (4 : Int32))] []) ?_ (by first | (simp [entryFrame, mkF, argsToLocals, Value.category]; done) | rfl)
  refine go_iload_n (q := 1) X0 hx (hb hby d11_0) (v := (4 : Int32)) rfl rfl ?_
  refine go_ifY (q := 12) X0 hx (hb hby d11_1) (XT.i0_ge_t (by decide)) (by decide) (by decide) ?_
  refine go_iload_n (q := 13) X0 hx (hb hby d11_12) (v := (4 : Int32)) rfl rfl ?_
  refine go_ldcI (q := 15) X0 hx hZ hown (w48 hw) (hb hby d11_13) rfl ?_
  refine go_icmpY (q := 55) X0 hx (hb hby d11_15) (XT.ii_lt_t (by decide)) (by decide) (by decide) ?_
  refine go_iload_n (q := 56) X0 hx (hb hby d11_55) (v := (4 : Int32)) rfl rfl ?_
  refine go_iconst (q := 57) X0 hx (hb hby d11_56) (v := (1 : Int32)) (by decide) rfl ?_
  refine go_ishl (q := 58) X0 hx (hb hby d11_57) (v := (8 : Int32)) (by decide) rfl ?_
  refine go_retI X0 hx hret hlk e0 (hb hby d11_58) (by simp) rfl (by decide) (by decide) ?_
  exact ⟨rfl, N0, (Keep.refl h0 [])⟩
set_option maxRecDepth 65536 in
set_option maxHeartbeats 40000000 in
theorem b10 (l : Launch) (Z : State) (a0 : Array Value) (hw : ∀ d ∈ tables_1, d.before a0 Z = true)  (h0 : Heap) (n0 : Nat) (O0 : Old Z n0 h0)  :
    Con l Z (⟨"java/lang/StringUTF16", "newBytesFor", "(I)[B"⟩ : MethodName) jdk_52_method_2_code 1 (some (.array .byte)) ({ frames := 1, cells := 1, slots := 8, locals := 12 } : Room) #[(.int (4 : Int32))] h0 (fun v h L => ∃ (r : Addr) (kb : ClassId), v = some (.ref r) ∧ Fr n0 L ∧ Keep h0 h [] ∧ h0.size ≤ r ∧ Arv Z h r kb .byte (8 : Int32) [(.int (0 : Int32)), (.int (0 : Int32)), (.int (0 : Int32)), (.int (0 : Int32)), (.int (0 : Int32)), (.int (0 : Int32)), (.int (0 : Int32)), (.int (0 : Int32))] (.int (0 : Int32))) := by
  refine Con.of (plainFor_of_name pn_0) ?_
  intro p e s m below meth c s₁ hx hby hml hZ hown hnm hret hlk X0 e0
  have N0 := Fr.nil n0
  refine go_cast (g' := mkF m 0 #[.val (.int (4 : Int32))] []) ?_ (by first | (simp [entryFrame, mkF, argsToLocals, Value.category]; done) | rfl)
  refine go_iload_n (q := 1) X0 hx (hb hby d10_0) (v := (4 : Int32)) rfl rfl ?_
  refine go_static (q := 4) X0 hx hZ hown (y := (⟨"java/lang/StringUTF16", "newBytesLength", "(I)I"⟩ : MethodName)) (w45 hw) (w46 hw) (w22 hw) (w47 hw) (by decide) e0 (b11 l Z a0 hw  h0 n0 O0 ) (argsL := [(.int (4 : Int32))]) (rest := []) rfl (lenOf pd_0 rfl) rfl (by rw [hml]; rfl) (W := 0) (Nat.le_of_eq rfl) (hb hby d10_1) (by decide) (by decide) (by decide) (by decide) rfl ?_
  rintro T1 h1 _ L1 X1 e1 ⟨rfl, M1, K1⟩
  have N1 := Fr.app N0 M1
  have O3 : Old Z n0 h1 := (O0.keep K1 all0)
  refine go_newP (q := 6) (ty := .byte) (cap := 8) (vs := [(.int (0 : Int32)), (.int (0 : Int32)), (.int (0 : Int32)), (.int (0 : Int32)), (.int (0 : Int32)), (.int (0 : Int32)), (.int (0 : Int32)), (.int (0 : Int32))]) (dv := (.int (0 : Int32))) X1 hx hZ rfl (w24 hw) e1 (hb hby d10_4) (by decide) (by decide) (by decide) (by decide) (by decide) rfl rfl rfl ?_
  intro T2 h2 ob2 k2 g2 X2 e2 E2 A2
  have fr2 : n0 ≤ ob2 := own_ge O3 g2
  have sn2 : h0.size ≤ ob2 := g2 ▸ (Nat.le_trans (Nat.le_refl _) K1.1)
  refine go_retA X2 hx hret hlk e2 (hb hby d10_6) rfl rfl rfl (by decide) (by decide) ?_
  exact ⟨ob2, k2, rfl, N1, (((Keep.refl h0 []).trans K1 all0).ext E2), sn2, A2⟩
set_option maxRecDepth 65536 in
set_option maxHeartbeats 40000000 in
theorem b12 (l : Launch) (Z : State) (a0 : Array Value) (hw : ∀ d ∈ tables_1, d.before a0 Z = true) (a1 : Addr) (kb : ClassId) (v0q : Int32) (v1q : Int32) (v2q : Int32) (v3q : Int32) (v4q : Int32) (v5q : Int32) (v6q : Int32) (v7q : Int32) (x : Int32) (h0 : Heap) (n0 : Nat) (O0 : Old Z n0 h0) (A_0 : Arv Z h0 a1 kb .byte (8 : Int32) [(.int v0q), (.int v1q), (.int v2q), (.int v3q), (.int v4q), (.int v5q), (.int v6q), (.int v7q)] (.int (0 : Int32))) (S_1 : Sta Z Z.heap "java/lang/StringUTF16" "$assertionsDisabled" "Z" (.int (1 : Int32))) (S_2 : Sta Z Z.heap "java/lang/StringUTF16" "HI_BYTE_SHIFT" "I" (.int (0 : Int32))) (S_3 : Sta Z Z.heap "java/lang/StringUTF16" "LO_BYTE_SHIFT" "I" (.int (8 : Int32))) (g_4 : n0 ≤ a1) :
    Con l Z (⟨"java/lang/StringUTF16", "putChar", "([BII)V"⟩ : MethodName) jdk_52_method_4_code 3 none ({ frames := 0, cells := 0, slots := 0, locals := 0 } : Room) #[(.ref a1), (.int (0 : Int32)), (.int x)] h0 (fun v h L => v = none ∧ Fr n0 L ∧ Keep h0 h [a1] ∧ Arv Z h a1 kb .byte (8 : Int32) [(.int x.toInt8.toInt32), (.int (x >>> ((8 : Int32) &&& 31)).toInt8.toInt32), (.int v2q), (.int v3q), (.int v4q), (.int v5q), (.int v6q), (.int v7q)] (.int (0 : Int32))) := by
  refine Con.of (plainFor_of_name pn_0) ?_
  intro p e s m below meth c s₁ hx hby hml hZ hown hnm hret hlk X0 e0
  have N0 := Fr.nil n0
  refine go_cast (g' := mkF m 0 #[.val (.ref a1), .val (.int (0 : Int32)), .val (.int x)] []) ?_ (by first | (simp [entryFrame, mkF, argsToLocals, Value.category]; done) | rfl)
  refine go_getS (q := 3) (host := "") X0 hx hZ hown (Or.inl (w52 hw)) Via.refl e0 (Sta.ext O0.2 S_1) (hb hby d12_0) rfl ?_
  intro T1 X1 e1
  refine go_ifY (q := 28) X1 hx (hb hby d12_3) (XT.i0_ne_t (by decide)) (by decide) (by decide) ?_
  refine go_iload_n (q := 29) X1 hx (hb hby d12_28) (v := (0 : Int32)) rfl rfl ?_
  refine go_iconst (q := 30) X1 hx (hb hby d12_29) (v := (1 : Int32)) (by decide) rfl ?_
  refine go_ishl (q := 31) X1 hx (hb hby d12_30) (v := (0 : Int32)) (by decide) rfl ?_
  refine go_istore_n (q := 32) X1 hx (hb hby d12_31) (l' := #[.val (.ref a1), .val (.int (0 : Int32)), .val (.int x)]) rfl rfl ?_
  refine go_aload_n (q := 33) X1 hx (hb hby d12_32) (v := (.ref a1)) rfl rfl rfl ?_
  refine go_iload_n (q := 34) X1 hx (hb hby d12_33) (v := (0 : Int32)) rfl rfl ?_
  refine go_iinc (q := 37) X1 hx (hb hby d12_34) (x := (0 : Int32)) (v := (1 : Int32)) rfl (by first | rfl | decide) (l' := #[.val (.ref a1), .val (.int (1 : Int32)), .val (.int x)]) rfl rfl ?_
  refine go_iload_n (q := 38) X1 hx (hb hby d12_37) (v := x) rfl rfl ?_
  refine go_getS (q := 41) (host := "") X1 hx hZ hown (Or.inl (w53 hw)) Via.refl e1 (Sta.ext O0.2 S_2) (hb hby d12_38) rfl ?_
  intro T2 X2 e2
  refine go_ishr (q := 42) X2 hx (hb hby d12_41) (v := x) (own_shr0 _) rfl ?_
  refine go_i2b (q := 43) X2 hx (hb hby d12_42) (v := x.toInt8.toInt32) rfl rfl ?_
  refine go_bastore (q := 44) (j := (0 : Int32)) (i := 0) (vs' := [(.int x.toInt8.toInt32), (.int v1q), (.int v2q), (.int v3q), (.int v4q), (.int v5q), (.int v6q), (.int v7q)]) X2 hx hZ e2 A_0 (by decide) (by decide) (show (0 : Nat) < 8 by decide) (own_narb _) rfl (hb hby d12_43) rfl ?_
  intro T3 h3 X3 e3 W3 A3
  have N3 := Fr.snoc X3 N0 g_4
  refine go_aload_n (q := 45) X3 hx (hb hby d12_44) (v := (.ref a1)) rfl rfl rfl ?_
  refine go_iload_n (q := 46) X3 hx (hb hby d12_45) (v := (1 : Int32)) rfl rfl ?_
  refine go_iload_n (q := 47) X3 hx (hb hby d12_46) (v := x) rfl rfl ?_
  have O5 : Old Z n0 h3 := (O0.wr W3 g_4)
  refine go_getS (q := 50) (host := "") X3 hx hZ hown (Or.inl (w54 hw)) Via.refl e3 (Sta.ext O5.2 S_3) (hb hby d12_47) rfl ?_
  intro T4 X4 e4
  refine go_ishr (q := 51) X4 hx (hb hby d12_50) (v := (x >>> ((8 : Int32) &&& 31))) rfl rfl ?_
  refine go_i2b (q := 52) X4 hx (hb hby d12_51) (v := (x >>> ((8 : Int32) &&& 31)).toInt8.toInt32) rfl rfl ?_
  refine go_bastore (q := 53) (j := (1 : Int32)) (i := 1) (vs' := [(.int x.toInt8.toInt32), (.int (x >>> ((8 : Int32) &&& 31)).toInt8.toInt32), (.int v2q), (.int v3q), (.int v4q), (.int v5q), (.int v6q), (.int v7q)]) X4 hx hZ e4 A3 (by decide) (by decide) (show (1 : Nat) < 8 by decide) (own_narb _) rfl (hb hby d12_52) rfl ?_
  intro T6 h6 X6 e6 W6 A6
  have N6 := Fr.snoc X6 N3 g_4
  refine go_ret0 X6 hx hret hlk e6 (hb hby d12_53) (by decide) (by decide) ?_
  exact ⟨rfl, N6, (((Keep.refl h0 [a1]).wr W3 (Or.inl (List.mem_of_getElem? (i := 0) rfl))).wr W6 (Or.inl (List.mem_of_getElem? (i := 0) rfl))), A6⟩
set_option maxRecDepth 65536 in
set_option maxHeartbeats 40000000 in
theorem b12_1 (l : Launch) (Z : State) (a0 : Array Value) (hw : ∀ d ∈ tables_1, d.before a0 Z = true) (a1 : Addr) (kb : ClassId) (v0q : Int32) (v1q : Int32) (v2q : Int32) (v3q : Int32) (v4q : Int32) (v5q : Int32) (v6q : Int32) (v7q : Int32) (x : Int32) (h0 : Heap) (n0 : Nat) (O0 : Old Z n0 h0) (A_0 : Arv Z h0 a1 kb .byte (8 : Int32) [(.int v0q), (.int v1q), (.int v2q), (.int v3q), (.int v4q), (.int v5q), (.int v6q), (.int v7q)] (.int (0 : Int32))) (S_1 : Sta Z Z.heap "java/lang/StringUTF16" "$assertionsDisabled" "Z" (.int (1 : Int32))) (S_2 : Sta Z Z.heap "java/lang/StringUTF16" "HI_BYTE_SHIFT" "I" (.int (0 : Int32))) (S_3 : Sta Z Z.heap "java/lang/StringUTF16" "LO_BYTE_SHIFT" "I" (.int (8 : Int32))) (g_4 : n0 ≤ a1) :
    Con l Z (⟨"java/lang/StringUTF16", "putChar", "([BII)V"⟩ : MethodName) jdk_52_method_4_code 3 none ({ frames := 0, cells := 0, slots := 0, locals := 0 } : Room) #[(.ref a1), (.int (1 : Int32)), (.int x)] h0 (fun v h L => v = none ∧ Fr n0 L ∧ Keep h0 h [a1] ∧ Arv Z h a1 kb .byte (8 : Int32) [(.int v0q), (.int v1q), (.int x.toInt8.toInt32), (.int (x >>> ((8 : Int32) &&& 31)).toInt8.toInt32), (.int v4q), (.int v5q), (.int v6q), (.int v7q)] (.int (0 : Int32))) := by
  refine Con.of (plainFor_of_name pn_0) ?_
  intro p e s m below meth c s₁ hx hby hml hZ hown hnm hret hlk X0 e0
  have N0 := Fr.nil n0
  refine go_cast (g' := mkF m 0 #[.val (.ref a1), .val (.int (1 : Int32)), .val (.int x)] []) ?_ (by first | (simp [entryFrame, mkF, argsToLocals, Value.category]; done) | rfl)
  refine go_getS (q := 3) (host := "") X0 hx hZ hown (Or.inl (w52 hw)) Via.refl e0 (Sta.ext O0.2 S_1) (hb hby d12_0) rfl ?_
  intro T1 X1 e1
  refine go_ifY (q := 28) X1 hx (hb hby d12_3) (XT.i0_ne_t (by decide)) (by decide) (by decide) ?_
  refine go_iload_n (q := 29) X1 hx (hb hby d12_28) (v := (1 : Int32)) rfl rfl ?_
  refine go_iconst (q := 30) X1 hx (hb hby d12_29) (v := (1 : Int32)) (by decide) rfl ?_
  refine go_ishl (q := 31) X1 hx (hb hby d12_30) (v := (2 : Int32)) (by decide) rfl ?_
  refine go_istore_n (q := 32) X1 hx (hb hby d12_31) (l' := #[.val (.ref a1), .val (.int (2 : Int32)), .val (.int x)]) rfl rfl ?_
  refine go_aload_n (q := 33) X1 hx (hb hby d12_32) (v := (.ref a1)) rfl rfl rfl ?_
  refine go_iload_n (q := 34) X1 hx (hb hby d12_33) (v := (2 : Int32)) rfl rfl ?_
  refine go_iinc (q := 37) X1 hx (hb hby d12_34) (x := (2 : Int32)) (v := (3 : Int32)) rfl (by first | rfl | decide) (l' := #[.val (.ref a1), .val (.int (3 : Int32)), .val (.int x)]) rfl rfl ?_
  refine go_iload_n (q := 38) X1 hx (hb hby d12_37) (v := x) rfl rfl ?_
  refine go_getS (q := 41) (host := "") X1 hx hZ hown (Or.inl (w53 hw)) Via.refl e1 (Sta.ext O0.2 S_2) (hb hby d12_38) rfl ?_
  intro T2 X2 e2
  refine go_ishr (q := 42) X2 hx (hb hby d12_41) (v := x) (own_shr0 _) rfl ?_
  refine go_i2b (q := 43) X2 hx (hb hby d12_42) (v := x.toInt8.toInt32) rfl rfl ?_
  refine go_bastore (q := 44) (j := (2 : Int32)) (i := 2) (vs' := [(.int v0q), (.int v1q), (.int x.toInt8.toInt32), (.int v3q), (.int v4q), (.int v5q), (.int v6q), (.int v7q)]) X2 hx hZ e2 A_0 (by decide) (by decide) (show (2 : Nat) < 8 by decide) (own_narb _) rfl (hb hby d12_43) rfl ?_
  intro T3 h3 X3 e3 W3 A3
  have N3 := Fr.snoc X3 N0 g_4
  refine go_aload_n (q := 45) X3 hx (hb hby d12_44) (v := (.ref a1)) rfl rfl rfl ?_
  refine go_iload_n (q := 46) X3 hx (hb hby d12_45) (v := (3 : Int32)) rfl rfl ?_
  refine go_iload_n (q := 47) X3 hx (hb hby d12_46) (v := x) rfl rfl ?_
  have O5 : Old Z n0 h3 := (O0.wr W3 g_4)
  refine go_getS (q := 50) (host := "") X3 hx hZ hown (Or.inl (w54 hw)) Via.refl e3 (Sta.ext O5.2 S_3) (hb hby d12_47) rfl ?_
  intro T4 X4 e4
  refine go_ishr (q := 51) X4 hx (hb hby d12_50) (v := (x >>> ((8 : Int32) &&& 31))) rfl rfl ?_
  refine go_i2b (q := 52) X4 hx (hb hby d12_51) (v := (x >>> ((8 : Int32) &&& 31)).toInt8.toInt32) rfl rfl ?_
  refine go_bastore (q := 53) (j := (3 : Int32)) (i := 3) (vs' := [(.int v0q), (.int v1q), (.int x.toInt8.toInt32), (.int (x >>> ((8 : Int32) &&& 31)).toInt8.toInt32), (.int v4q), (.int v5q), (.int v6q), (.int v7q)]) X4 hx hZ e4 A3 (by decide) (by decide) (show (3 : Nat) < 8 by decide) (own_narb _) rfl (hb hby d12_52) rfl ?_
  intro T6 h6 X6 e6 W6 A6
  have N6 := Fr.snoc X6 N3 g_4
  refine go_ret0 X6 hx hret hlk e6 (hb hby d12_53) (by decide) (by decide) ?_
  exact ⟨rfl, N6, (((Keep.refl h0 [a1]).wr W3 (Or.inl (List.mem_of_getElem? (i := 0) rfl))).wr W6 (Or.inl (List.mem_of_getElem? (i := 0) rfl))), A6⟩
set_option maxRecDepth 65536 in
set_option maxHeartbeats 40000000 in
theorem b12_2 (l : Launch) (Z : State) (a0 : Array Value) (hw : ∀ d ∈ tables_1, d.before a0 Z = true) (a1 : Addr) (kb : ClassId) (v0q : Int32) (v1q : Int32) (v2q : Int32) (v3q : Int32) (v4q : Int32) (v5q : Int32) (v6q : Int32) (v7q : Int32) (x : Int32) (h0 : Heap) (n0 : Nat) (O0 : Old Z n0 h0) (A_0 : Arv Z h0 a1 kb .byte (8 : Int32) [(.int v0q), (.int v1q), (.int v2q), (.int v3q), (.int v4q), (.int v5q), (.int v6q), (.int v7q)] (.int (0 : Int32))) (S_1 : Sta Z Z.heap "java/lang/StringUTF16" "$assertionsDisabled" "Z" (.int (1 : Int32))) (S_2 : Sta Z Z.heap "java/lang/StringUTF16" "HI_BYTE_SHIFT" "I" (.int (0 : Int32))) (S_3 : Sta Z Z.heap "java/lang/StringUTF16" "LO_BYTE_SHIFT" "I" (.int (8 : Int32))) (g_4 : n0 ≤ a1) :
    Con l Z (⟨"java/lang/StringUTF16", "putChar", "([BII)V"⟩ : MethodName) jdk_52_method_4_code 3 none ({ frames := 0, cells := 0, slots := 0, locals := 0 } : Room) #[(.ref a1), (.int (2 : Int32)), (.int x)] h0 (fun v h L => v = none ∧ Fr n0 L ∧ Keep h0 h [a1] ∧ Arv Z h a1 kb .byte (8 : Int32) [(.int v0q), (.int v1q), (.int v2q), (.int v3q), (.int x.toInt8.toInt32), (.int (x >>> ((8 : Int32) &&& 31)).toInt8.toInt32), (.int v6q), (.int v7q)] (.int (0 : Int32))) := by
  refine Con.of (plainFor_of_name pn_0) ?_
  intro p e s m below meth c s₁ hx hby hml hZ hown hnm hret hlk X0 e0
  have N0 := Fr.nil n0
  refine go_cast (g' := mkF m 0 #[.val (.ref a1), .val (.int (2 : Int32)), .val (.int x)] []) ?_ (by first | (simp [entryFrame, mkF, argsToLocals, Value.category]; done) | rfl)
  refine go_getS (q := 3) (host := "") X0 hx hZ hown (Or.inl (w52 hw)) Via.refl e0 (Sta.ext O0.2 S_1) (hb hby d12_0) rfl ?_
  intro T1 X1 e1
  refine go_ifY (q := 28) X1 hx (hb hby d12_3) (XT.i0_ne_t (by decide)) (by decide) (by decide) ?_
  refine go_iload_n (q := 29) X1 hx (hb hby d12_28) (v := (2 : Int32)) rfl rfl ?_
  refine go_iconst (q := 30) X1 hx (hb hby d12_29) (v := (1 : Int32)) (by decide) rfl ?_
  refine go_ishl (q := 31) X1 hx (hb hby d12_30) (v := (4 : Int32)) (by decide) rfl ?_
  refine go_istore_n (q := 32) X1 hx (hb hby d12_31) (l' := #[.val (.ref a1), .val (.int (4 : Int32)), .val (.int x)]) rfl rfl ?_
  refine go_aload_n (q := 33) X1 hx (hb hby d12_32) (v := (.ref a1)) rfl rfl rfl ?_
  refine go_iload_n (q := 34) X1 hx (hb hby d12_33) (v := (4 : Int32)) rfl rfl ?_
  refine go_iinc (q := 37) X1 hx (hb hby d12_34) (x := (4 : Int32)) (v := (5 : Int32)) rfl (by first | rfl | decide) (l' := #[.val (.ref a1), .val (.int (5 : Int32)), .val (.int x)]) rfl rfl ?_
  refine go_iload_n (q := 38) X1 hx (hb hby d12_37) (v := x) rfl rfl ?_
  refine go_getS (q := 41) (host := "") X1 hx hZ hown (Or.inl (w53 hw)) Via.refl e1 (Sta.ext O0.2 S_2) (hb hby d12_38) rfl ?_
  intro T2 X2 e2
  refine go_ishr (q := 42) X2 hx (hb hby d12_41) (v := x) (own_shr0 _) rfl ?_
  refine go_i2b (q := 43) X2 hx (hb hby d12_42) (v := x.toInt8.toInt32) rfl rfl ?_
  refine go_bastore (q := 44) (j := (4 : Int32)) (i := 4) (vs' := [(.int v0q), (.int v1q), (.int v2q), (.int v3q), (.int x.toInt8.toInt32), (.int v5q), (.int v6q), (.int v7q)]) X2 hx hZ e2 A_0 (by decide) (by decide) (show (4 : Nat) < 8 by decide) (own_narb _) rfl (hb hby d12_43) rfl ?_
  intro T3 h3 X3 e3 W3 A3
  have N3 := Fr.snoc X3 N0 g_4
  refine go_aload_n (q := 45) X3 hx (hb hby d12_44) (v := (.ref a1)) rfl rfl rfl ?_
  refine go_iload_n (q := 46) X3 hx (hb hby d12_45) (v := (5 : Int32)) rfl rfl ?_
  refine go_iload_n (q := 47) X3 hx (hb hby d12_46) (v := x) rfl rfl ?_
  have O5 : Old Z n0 h3 := (O0.wr W3 g_4)
  refine go_getS (q := 50) (host := "") X3 hx hZ hown (Or.inl (w54 hw)) Via.refl e3 (Sta.ext O5.2 S_3) (hb hby d12_47) rfl ?_
  intro T4 X4 e4
  refine go_ishr (q := 51) X4 hx (hb hby d12_50) (v := (x >>> ((8 : Int32) &&& 31))) rfl rfl ?_
  refine go_i2b (q := 52) X4 hx (hb hby d12_51) (v := (x >>> ((8 : Int32) &&& 31)).toInt8.toInt32) rfl rfl ?_
  refine go_bastore (q := 53) (j := (5 : Int32)) (i := 5) (vs' := [(.int v0q), (.int v1q), (.int v2q), (.int v3q), (.int x.toInt8.toInt32), (.int (x >>> ((8 : Int32) &&& 31)).toInt8.toInt32), (.int v6q), (.int v7q)]) X4 hx hZ e4 A3 (by decide) (by decide) (show (5 : Nat) < 8 by decide) (own_narb _) rfl (hb hby d12_52) rfl ?_
  intro T6 h6 X6 e6 W6 A6
  have N6 := Fr.snoc X6 N3 g_4
  refine go_ret0 X6 hx hret hlk e6 (hb hby d12_53) (by decide) (by decide) ?_
  exact ⟨rfl, N6, (((Keep.refl h0 [a1]).wr W3 (Or.inl (List.mem_of_getElem? (i := 0) rfl))).wr W6 (Or.inl (List.mem_of_getElem? (i := 0) rfl))), A6⟩
set_option maxRecDepth 65536 in
set_option maxHeartbeats 40000000 in
theorem b12_3 (l : Launch) (Z : State) (a0 : Array Value) (hw : ∀ d ∈ tables_1, d.before a0 Z = true) (a1 : Addr) (kb : ClassId) (v0q : Int32) (v1q : Int32) (v2q : Int32) (v3q : Int32) (v4q : Int32) (v5q : Int32) (v6q : Int32) (v7q : Int32) (x : Int32) (h0 : Heap) (n0 : Nat) (O0 : Old Z n0 h0) (A_0 : Arv Z h0 a1 kb .byte (8 : Int32) [(.int v0q), (.int v1q), (.int v2q), (.int v3q), (.int v4q), (.int v5q), (.int v6q), (.int v7q)] (.int (0 : Int32))) (S_1 : Sta Z Z.heap "java/lang/StringUTF16" "$assertionsDisabled" "Z" (.int (1 : Int32))) (S_2 : Sta Z Z.heap "java/lang/StringUTF16" "HI_BYTE_SHIFT" "I" (.int (0 : Int32))) (S_3 : Sta Z Z.heap "java/lang/StringUTF16" "LO_BYTE_SHIFT" "I" (.int (8 : Int32))) (g_4 : n0 ≤ a1) :
    Con l Z (⟨"java/lang/StringUTF16", "putChar", "([BII)V"⟩ : MethodName) jdk_52_method_4_code 3 none ({ frames := 0, cells := 0, slots := 0, locals := 0 } : Room) #[(.ref a1), (.int (3 : Int32)), (.int x)] h0 (fun v h L => v = none ∧ Fr n0 L ∧ Keep h0 h [a1] ∧ Arv Z h a1 kb .byte (8 : Int32) [(.int v0q), (.int v1q), (.int v2q), (.int v3q), (.int v4q), (.int v5q), (.int x.toInt8.toInt32), (.int (x >>> ((8 : Int32) &&& 31)).toInt8.toInt32)] (.int (0 : Int32))) := by
  refine Con.of (plainFor_of_name pn_0) ?_
  intro p e s m below meth c s₁ hx hby hml hZ hown hnm hret hlk X0 e0
  have N0 := Fr.nil n0
  refine go_cast (g' := mkF m 0 #[.val (.ref a1), .val (.int (3 : Int32)), .val (.int x)] []) ?_ (by first | (simp [entryFrame, mkF, argsToLocals, Value.category]; done) | rfl)
  refine go_getS (q := 3) (host := "") X0 hx hZ hown (Or.inl (w52 hw)) Via.refl e0 (Sta.ext O0.2 S_1) (hb hby d12_0) rfl ?_
  intro T1 X1 e1
  refine go_ifY (q := 28) X1 hx (hb hby d12_3) (XT.i0_ne_t (by decide)) (by decide) (by decide) ?_
  refine go_iload_n (q := 29) X1 hx (hb hby d12_28) (v := (3 : Int32)) rfl rfl ?_
  refine go_iconst (q := 30) X1 hx (hb hby d12_29) (v := (1 : Int32)) (by decide) rfl ?_
  refine go_ishl (q := 31) X1 hx (hb hby d12_30) (v := (6 : Int32)) (by decide) rfl ?_
  refine go_istore_n (q := 32) X1 hx (hb hby d12_31) (l' := #[.val (.ref a1), .val (.int (6 : Int32)), .val (.int x)]) rfl rfl ?_
  refine go_aload_n (q := 33) X1 hx (hb hby d12_32) (v := (.ref a1)) rfl rfl rfl ?_
  refine go_iload_n (q := 34) X1 hx (hb hby d12_33) (v := (6 : Int32)) rfl rfl ?_
  refine go_iinc (q := 37) X1 hx (hb hby d12_34) (x := (6 : Int32)) (v := (7 : Int32)) rfl (by first | rfl | decide) (l' := #[.val (.ref a1), .val (.int (7 : Int32)), .val (.int x)]) rfl rfl ?_
  refine go_iload_n (q := 38) X1 hx (hb hby d12_37) (v := x) rfl rfl ?_
  refine go_getS (q := 41) (host := "") X1 hx hZ hown (Or.inl (w53 hw)) Via.refl e1 (Sta.ext O0.2 S_2) (hb hby d12_38) rfl ?_
  intro T2 X2 e2
  refine go_ishr (q := 42) X2 hx (hb hby d12_41) (v := x) (own_shr0 _) rfl ?_
  refine go_i2b (q := 43) X2 hx (hb hby d12_42) (v := x.toInt8.toInt32) rfl rfl ?_
  refine go_bastore (q := 44) (j := (6 : Int32)) (i := 6) (vs' := [(.int v0q), (.int v1q), (.int v2q), (.int v3q), (.int v4q), (.int v5q), (.int x.toInt8.toInt32), (.int v7q)]) X2 hx hZ e2 A_0 (by decide) (by decide) (show (6 : Nat) < 8 by decide) (own_narb _) rfl (hb hby d12_43) rfl ?_
  intro T3 h3 X3 e3 W3 A3
  have N3 := Fr.snoc X3 N0 g_4
  refine go_aload_n (q := 45) X3 hx (hb hby d12_44) (v := (.ref a1)) rfl rfl rfl ?_
  refine go_iload_n (q := 46) X3 hx (hb hby d12_45) (v := (7 : Int32)) rfl rfl ?_
  refine go_iload_n (q := 47) X3 hx (hb hby d12_46) (v := x) rfl rfl ?_
  have O5 : Old Z n0 h3 := (O0.wr W3 g_4)
  refine go_getS (q := 50) (host := "") X3 hx hZ hown (Or.inl (w54 hw)) Via.refl e3 (Sta.ext O5.2 S_3) (hb hby d12_47) rfl ?_
  intro T4 X4 e4
  refine go_ishr (q := 51) X4 hx (hb hby d12_50) (v := (x >>> ((8 : Int32) &&& 31))) rfl rfl ?_
  refine go_i2b (q := 52) X4 hx (hb hby d12_51) (v := (x >>> ((8 : Int32) &&& 31)).toInt8.toInt32) rfl rfl ?_
  refine go_bastore (q := 53) (j := (7 : Int32)) (i := 7) (vs' := [(.int v0q), (.int v1q), (.int v2q), (.int v3q), (.int v4q), (.int v5q), (.int x.toInt8.toInt32), (.int (x >>> ((8 : Int32) &&& 31)).toInt8.toInt32)]) X4 hx hZ e4 A3 (by decide) (by decide) (show (7 : Nat) < 8 by decide) (own_narb _) rfl (hb hby d12_52) rfl ?_
  intro T6 h6 X6 e6 W6 A6
  have N6 := Fr.snoc X6 N3 g_4
  refine go_ret0 X6 hx hret hlk e6 (hb hby d12_53) (by decide) (by decide) ?_
  exact ⟨rfl, N6, (((Keep.refl h0 [a1]).wr W3 (Or.inl (List.mem_of_getElem? (i := 0) rfl))).wr W6 (Or.inl (List.mem_of_getElem? (i := 0) rfl))), A6⟩
set_option maxRecDepth 65536 in
set_option maxHeartbeats 40000000 in
theorem b9 (l : Launch) (Z : State) (a0 : Array Value) (hw : ∀ d ∈ tables_1, d.before a0 Z = true) (a1 : Addr) (kc : ClassId) (dc : Value) (x0 : Int32) (x1 : Int32) (x2 : Int32) (x3 : Int32) (h0 : Heap) (n0 : Nat) (O0 : Old Z n0 h0) (A_0 : Arv Z h0 a1 kc .char (4 : Int32) [(.int x0), (.int x1), (.int x2), (.int x3)] dc) (S_1 : Sta Z Z.heap "java/lang/StringUTF16" "$assertionsDisabled" "Z" (.int (1 : Int32))) (S_2 : Sta Z Z.heap "java/lang/StringUTF16" "HI_BYTE_SHIFT" "I" (.int (0 : Int32))) (S_3 : Sta Z Z.heap "java/lang/StringUTF16" "LO_BYTE_SHIFT" "I" (.int (8 : Int32))) :
    Con l Z (⟨"java/lang/StringUTF16", "toBytes", "([CII)[B"⟩ : MethodName) jdk_52_method_14_code 5 (some (.array .byte)) ({ frames := 2, cells := 1, slots := 8, locals := 24 } : Room) #[(.ref a1), (.int (0 : Int32)), (.int (4 : Int32))] h0 (fun v h L => ∃ (r : Addr) (kb : ClassId), v = some (.ref r) ∧ Fr n0 L ∧ Keep h0 h [] ∧ h0.size ≤ r ∧ Arv Z h r kb .byte (8 : Int32) [(.int x0.toInt8.toInt32), (.int (x0 >>> ((8 : Int32) &&& 31)).toInt8.toInt32), (.int x1.toInt8.toInt32), (.int (x1 >>> ((8 : Int32) &&& 31)).toInt8.toInt32), (.int x2.toInt8.toInt32), (.int (x2 >>> ((8 : Int32) &&& 31)).toInt8.toInt32), (.int x3.toInt8.toInt32), (.int (x3 >>> ((8 : Int32) &&& 31)).toInt8.toInt32)] (.int (0 : Int32))) := by
  refine Con.of (plainFor_of_name pn_0) ?_
  intro p e s m below meth c s₁ hx hby hml hZ hown hnm hret hlk X0 e0
  have N0 := Fr.nil n0
  refine go_cast (g' := mkF m 0 #[.val (.ref a1), .val (.int (0 : Int32)), .val (.int (4 : Int32)), .unset, .unset] []) ?_ (by first | (simp [entryFrame, mkF, argsToLocals, Value.category]; done) | rfl)
  refine go_iload_n (q := 1) X0 hx (hb hby d9_0) (v := (4 : Int32)) rfl rfl ?_
  refine go_static (q := 4) X0 hx hZ hown (y := (⟨"java/lang/StringUTF16", "newBytesFor", "(I)[B"⟩ : MethodName)) (w42 hw) (w43 hw) (w22 hw) (w44 hw) (by decide) e0 (b10 l Z a0 hw  h0 n0 O0 ) (argsL := [(.int (4 : Int32))]) (rest := []) rfl (lenOf pd_1 rfl) rfl (by rw [hml]; rfl) (W := 0) (Nat.le_of_eq rfl) (hb hby d9_1) (by decide) (by decide) (by decide) (by decide) rfl ?_
  rintro T1 h1 _ L1 X1 e1 ⟨r_1, kb_1, rfl, M1, K1, p1_0, p1_1⟩
  have N1 := Fr.app N0 M1
  have fr_r_1 : n0 ≤ r_1 := Nat.le_trans (own_le O0) p1_0
  have sn_r_1 : h0.size ≤ r_1 := Nat.le_trans (Nat.le_refl _) p1_0
  have ne_a1_r_1 : a1 ≠ r_1 := own_ltg p1_0 A_0.lt
  refine go_astore_n (q := 5) X1 hx (hb hby d9_4) rfl (l' := #[.val (.ref a1), .val (.int (0 : Int32)), .val (.int (4 : Int32)), .val (.ref r_1), .unset]) rfl rfl ?_
  refine go_iconst (q := 6) X1 hx (hb hby d9_5) (v := (0 : Int32)) (by decide) rfl ?_
  refine go_istore (q := 8) X1 hx (hb hby d9_6) (l' := #[.val (.ref a1), .val (.int (0 : Int32)), .val (.int (4 : Int32)), .val (.ref r_1), .val (.int (0 : Int32))]) rfl rfl ?_
  refine go_iload (q := 10) X1 hx (hb hby d9_8) (v := (0 : Int32)) rfl rfl ?_
  refine go_iload_n (q := 11) X1 hx (hb hby d9_10) (v := (4 : Int32)) rfl rfl ?_
  refine go_icmpN (q := 14) X1 hx (hb hby d9_11) (XT.ii_ge_f (by decide)) rfl ?_
  refine go_aload_n (q := 15) X1 hx (hb hby d9_14) (v := (.ref r_1)) rfl rfl rfl ?_
  refine go_iload (q := 17) X1 hx (hb hby d9_15) (v := (0 : Int32)) rfl rfl ?_
  refine go_aload_n (q := 18) X1 hx (hb hby d9_17) (v := (.ref a1)) rfl rfl rfl ?_
  refine go_iload_n (q := 19) X1 hx (hb hby d9_18) (v := (0 : Int32)) rfl rfl ?_
  have f2 : Arv Z h1 a1 kc .char (4 : Int32) [(.int x0), (.int x1), (.int x2), (.int x3)] dc := (A_0.keep K1 nin0)
  refine go_caload (q := 20) (j := (0 : Int32)) (v := (.int x0)) X1 hx hZ e1 f2 (by decide) rfl (hb hby d9_19) rfl ?_
  have O3 : Old Z n0 h1 := (O0.keep K1 all0)
  refine go_static (q := 23) X1 hx hZ hown (y := (⟨"java/lang/StringUTF16", "putChar", "([BII)V"⟩ : MethodName)) (w49 hw) (w50 hw) (w22 hw) (w51 hw) (by decide) e1 (b12 l Z a0 hw r_1 kb_1 (0 : Int32) (0 : Int32) (0 : Int32) (0 : Int32) (0 : Int32) (0 : Int32) (0 : Int32) (0 : Int32) x0 h1 n0 O3 p1_1 S_1 S_2 S_3 fr_r_1) (argsL := [(.ref r_1), (.int (0 : Int32)), (.int x0)]) (rest := []) rfl (lenOf pd_2 rfl) rfl (by rw [hml]; rfl) (W := 0) (Nat.le_of_eq rfl) (hb hby d9_20) (by decide) (by decide) (by decide) (by decide) rfl ?_
  rintro T4 h4 _ L4 X4 e4 ⟨rfl, M4, K4, p4_0⟩
  have N4 := Fr.app N1 M4
  refine go_iinc (q := 26) X4 hx (hb hby d9_23) (x := (0 : Int32)) (v := (1 : Int32)) rfl (by first | rfl | decide) (l' := #[.val (.ref a1), .val (.int (1 : Int32)), .val (.int (4 : Int32)), .val (.ref r_1), .val (.int (0 : Int32))]) rfl rfl ?_
  refine go_iinc (q := 29) X4 hx (hb hby d9_26) (x := (0 : Int32)) (v := (1 : Int32)) rfl (by first | rfl | decide) (l' := #[.val (.ref a1), .val (.int (1 : Int32)), .val (.int (4 : Int32)), .val (.ref r_1), .val (.int (1 : Int32))]) rfl rfl ?_
  refine go_goto (q := 8) X4 hx (hb hby d9_29) (by decide) (by decide) ?_
  refine go_iload (q := 10) X4 hx (hb hby d9_8) (v := (1 : Int32)) rfl rfl ?_
  refine go_iload_n (q := 11) X4 hx (hb hby d9_10) (v := (4 : Int32)) rfl rfl ?_
  refine go_icmpN (q := 14) X4 hx (hb hby d9_11) (XT.ii_ge_f (by decide)) rfl ?_
  refine go_aload_n (q := 15) X4 hx (hb hby d9_14) (v := (.ref r_1)) rfl rfl rfl ?_
  refine go_iload (q := 17) X4 hx (hb hby d9_15) (v := (1 : Int32)) rfl rfl ?_
  refine go_aload_n (q := 18) X4 hx (hb hby d9_17) (v := (.ref a1)) rfl rfl rfl ?_
  refine go_iload_n (q := 19) X4 hx (hb hby d9_18) (v := (1 : Int32)) rfl rfl ?_
  have f5 : Arv Z h4 a1 kc .char (4 : Int32) [(.int x0), (.int x1), (.int x2), (.int x3)] dc := (f2.keep K4 (ninS ne_a1_r_1 nin0))
  refine go_caload (q := 20) (j := (1 : Int32)) (v := (.int x1)) X4 hx hZ e4 f5 (by decide) rfl (hb hby d9_19) rfl ?_
  have O6 : Old Z n0 h4 := (O3.keep K4 (allS fr_r_1 all0))
  refine go_static (q := 23) X4 hx hZ hown (y := (⟨"java/lang/StringUTF16", "putChar", "([BII)V"⟩ : MethodName)) (w49 hw) (w50 hw) (w22 hw) (w51 hw) (by decide) e4 (b12_1 l Z a0 hw r_1 kb_1 x0.toInt8.toInt32 (x0 >>> ((8 : Int32) &&& 31)).toInt8.toInt32 (0 : Int32) (0 : Int32) (0 : Int32) (0 : Int32) (0 : Int32) (0 : Int32) x1 h4 n0 O6 p4_0 S_1 S_2 S_3 fr_r_1) (argsL := [(.ref r_1), (.int (1 : Int32)), (.int x1)]) (rest := []) rfl (lenOf pd_2 rfl) rfl (by rw [hml]; rfl) (W := 0) (Nat.le_of_eq rfl) (hb hby d9_20) (by decide) (by decide) (by decide) (by decide) rfl ?_
  rintro T7 h7 _ L7 X7 e7 ⟨rfl, M7, K7, p7_0⟩
  have N7 := Fr.app N4 M7
  refine go_iinc (q := 26) X7 hx (hb hby d9_23) (x := (1 : Int32)) (v := (2 : Int32)) rfl (by first | rfl | decide) (l' := #[.val (.ref a1), .val (.int (2 : Int32)), .val (.int (4 : Int32)), .val (.ref r_1), .val (.int (1 : Int32))]) rfl rfl ?_
  refine go_iinc (q := 29) X7 hx (hb hby d9_26) (x := (1 : Int32)) (v := (2 : Int32)) rfl (by first | rfl | decide) (l' := #[.val (.ref a1), .val (.int (2 : Int32)), .val (.int (4 : Int32)), .val (.ref r_1), .val (.int (2 : Int32))]) rfl rfl ?_
  refine go_goto (q := 8) X7 hx (hb hby d9_29) (by decide) (by decide) ?_
  refine go_iload (q := 10) X7 hx (hb hby d9_8) (v := (2 : Int32)) rfl rfl ?_
  refine go_iload_n (q := 11) X7 hx (hb hby d9_10) (v := (4 : Int32)) rfl rfl ?_
  refine go_icmpN (q := 14) X7 hx (hb hby d9_11) (XT.ii_ge_f (by decide)) rfl ?_
  refine go_aload_n (q := 15) X7 hx (hb hby d9_14) (v := (.ref r_1)) rfl rfl rfl ?_
  refine go_iload (q := 17) X7 hx (hb hby d9_15) (v := (2 : Int32)) rfl rfl ?_
  refine go_aload_n (q := 18) X7 hx (hb hby d9_17) (v := (.ref a1)) rfl rfl rfl ?_
  refine go_iload_n (q := 19) X7 hx (hb hby d9_18) (v := (2 : Int32)) rfl rfl ?_
  have f8 : Arv Z h7 a1 kc .char (4 : Int32) [(.int x0), (.int x1), (.int x2), (.int x3)] dc := (f5.keep K7 (ninS ne_a1_r_1 nin0))
  refine go_caload (q := 20) (j := (2 : Int32)) (v := (.int x2)) X7 hx hZ e7 f8 (by decide) rfl (hb hby d9_19) rfl ?_
  have O9 : Old Z n0 h7 := (O6.keep K7 (allS fr_r_1 all0))
  refine go_static (q := 23) X7 hx hZ hown (y := (⟨"java/lang/StringUTF16", "putChar", "([BII)V"⟩ : MethodName)) (w49 hw) (w50 hw) (w22 hw) (w51 hw) (by decide) e7 (b12_2 l Z a0 hw r_1 kb_1 x0.toInt8.toInt32 (x0 >>> ((8 : Int32) &&& 31)).toInt8.toInt32 x1.toInt8.toInt32 (x1 >>> ((8 : Int32) &&& 31)).toInt8.toInt32 (0 : Int32) (0 : Int32) (0 : Int32) (0 : Int32) x2 h7 n0 O9 p7_0 S_1 S_2 S_3 fr_r_1) (argsL := [(.ref r_1), (.int (2 : Int32)), (.int x2)]) (rest := []) rfl (lenOf pd_2 rfl) rfl (by rw [hml]; rfl) (W := 0) (Nat.le_of_eq rfl) (hb hby d9_20) (by decide) (by decide) (by decide) (by decide) rfl ?_
  rintro T10 h10 _ L10 X10 e10 ⟨rfl, M10, K10, p10_0⟩
  have N10 := Fr.app N7 M10
  refine go_iinc (q := 26) X10 hx (hb hby d9_23) (x := (2 : Int32)) (v := (3 : Int32)) rfl (by first | rfl | decide) (l' := #[.val (.ref a1), .val (.int (3 : Int32)), .val (.int (4 : Int32)), .val (.ref r_1), .val (.int (2 : Int32))]) rfl rfl ?_
  refine go_iinc (q := 29) X10 hx (hb hby d9_26) (x := (2 : Int32)) (v := (3 : Int32)) rfl (by first | rfl | decide) (l' := #[.val (.ref a1), .val (.int (3 : Int32)), .val (.int (4 : Int32)), .val (.ref r_1), .val (.int (3 : Int32))]) rfl rfl ?_
  refine go_goto (q := 8) X10 hx (hb hby d9_29) (by decide) (by decide) ?_
  refine go_iload (q := 10) X10 hx (hb hby d9_8) (v := (3 : Int32)) rfl rfl ?_
  refine go_iload_n (q := 11) X10 hx (hb hby d9_10) (v := (4 : Int32)) rfl rfl ?_
  refine go_icmpN (q := 14) X10 hx (hb hby d9_11) (XT.ii_ge_f (by decide)) rfl ?_
  refine go_aload_n (q := 15) X10 hx (hb hby d9_14) (v := (.ref r_1)) rfl rfl rfl ?_
  refine go_iload (q := 17) X10 hx (hb hby d9_15) (v := (3 : Int32)) rfl rfl ?_
  refine go_aload_n (q := 18) X10 hx (hb hby d9_17) (v := (.ref a1)) rfl rfl rfl ?_
  refine go_iload_n (q := 19) X10 hx (hb hby d9_18) (v := (3 : Int32)) rfl rfl ?_
  have f11 : Arv Z h10 a1 kc .char (4 : Int32) [(.int x0), (.int x1), (.int x2), (.int x3)] dc := (f8.keep K10 (ninS ne_a1_r_1 nin0))
  refine go_caload (q := 20) (j := (3 : Int32)) (v := (.int x3)) X10 hx hZ e10 f11 (by decide) rfl (hb hby d9_19) rfl ?_
  have O12 : Old Z n0 h10 := (O9.keep K10 (allS fr_r_1 all0))
  refine go_static (q := 23) X10 hx hZ hown (y := (⟨"java/lang/StringUTF16", "putChar", "([BII)V"⟩ : MethodName)) (w49 hw) (w50 hw) (w22 hw) (w51 hw) (by decide) e10 (b12_3 l Z a0 hw r_1 kb_1 x0.toInt8.toInt32 (x0 >>> ((8 : Int32) &&& 31)).toInt8.toInt32 x1.toInt8.toInt32 (x1 >>> ((8 : Int32) &&& 31)).toInt8.toInt32 x2.toInt8.toInt32 (x2 >>> ((8 : Int32) &&& 31)).toInt8.toInt32 (0 : Int32) (0 : Int32) x3 h10 n0 O12 p10_0 S_1 S_2 S_3 fr_r_1) (argsL := [(.ref r_1), (.int (3 : Int32)), (.int x3)]) (rest := []) rfl (lenOf pd_2 rfl) rfl (by rw [hml]; rfl) (W := 0) (Nat.le_of_eq rfl) (hb hby d9_20) (by decide) (by decide) (by decide) (by decide) rfl ?_
  rintro T13 h13 _ L13 X13 e13 ⟨rfl, M13, K13, p13_0⟩
  have N13 := Fr.app N10 M13
  refine go_iinc (q := 26) X13 hx (hb hby d9_23) (x := (3 : Int32)) (v := (4 : Int32)) rfl (by first | rfl | decide) (l' := #[.val (.ref a1), .val (.int (4 : Int32)), .val (.int (4 : Int32)), .val (.ref r_1), .val (.int (3 : Int32))]) rfl rfl ?_
  refine go_iinc (q := 29) X13 hx (hb hby d9_26) (x := (3 : Int32)) (v := (4 : Int32)) rfl (by first | rfl | decide) (l' := #[.val (.ref a1), .val (.int (4 : Int32)), .val (.int (4 : Int32)), .val (.ref r_1), .val (.int (4 : Int32))]) rfl rfl ?_
  refine go_goto (q := 8) X13 hx (hb hby d9_29) (by decide) (by decide) ?_
  refine go_iload (q := 10) X13 hx (hb hby d9_8) (v := (4 : Int32)) rfl rfl ?_
  refine go_iload_n (q := 11) X13 hx (hb hby d9_10) (v := (4 : Int32)) rfl rfl ?_
  refine go_icmpY (q := 32) X13 hx (hb hby d9_11) (XT.ii_ge_t (by decide)) (by decide) (by decide) ?_
  refine go_aload_n (q := 33) X13 hx (hb hby d9_32) (v := (.ref r_1)) rfl rfl rfl ?_
  refine go_retA X13 hx hret hlk e13 (hb hby d9_33) rfl rfl rfl (by decide) (by decide) ?_
  exact ⟨r_1, kb_1, rfl, N13, ((((((Keep.refl h0 []).trans K1 all0).trans K4 (allS (P := fun x => x ∈ [] ∨ h0.size ≤ x) (Or.inr sn_r_1) all0)).trans K7 (allS (P := fun x => x ∈ [] ∨ h0.size ≤ x) (Or.inr sn_r_1) all0)).trans K10 (allS (P := fun x => x ∈ [] ∨ h0.size ≤ x) (Or.inr sn_r_1) all0)).trans K13 (allS (P := fun x => x ∈ [] ∨ h0.size ≤ x) (Or.inr sn_r_1) all0)), sn_r_1, p13_0⟩
set_option maxRecDepth 65536 in
set_option maxHeartbeats 40000000 in
theorem b13 (l : Launch) (Z : State) (a0 : Array Value) (hw : ∀ d ∈ tables_1, d.before a0 Z = true) (a1 : Addr) (kb : ClassId) (x0 : Int32) (x1 : Int32) (x2 : Int32) (x3 : Int32) (h0 : Heap) (n0 : Nat) (O0 : Old Z n0 h0) (A_0 : Arv Z h0 a1 kb .byte (8 : Int32) [(.int x0.toInt8.toInt32), (.int (x0 >>> ((8 : Int32) &&& 31)).toInt8.toInt32), (.int x1.toInt8.toInt32), (.int (x1 >>> ((8 : Int32) &&& 31)).toInt8.toInt32), (.int x2.toInt8.toInt32), (.int (x2 >>> ((8 : Int32) &&& 31)).toInt8.toInt32), (.int x3.toInt8.toInt32), (.int (x3 >>> ((8 : Int32) &&& 31)).toInt8.toInt32)] (.int (0 : Int32))) (S_1 : Sta Z Z.heap "java/lang/StringUTF16" "$assertionsDisabled" "Z" (.int (1 : Int32))) (S_2 : Sta Z Z.heap "java/lang/StringUTF16" "HI_BYTE_SHIFT" "I" (.int (0 : Int32))) (S_3 : Sta Z Z.heap "java/lang/StringUTF16" "LO_BYTE_SHIFT" "I" (.int (8 : Int32))) (hr_4 : (0 ≤ x0.toInt ∧ x0.toInt ≤ 65535)) :
    Con l Z (⟨"java/lang/StringUTF16", "getChar", "([BI)C"⟩ : MethodName) jdk_52_method_5_code 2 (some .char) ({ frames := 0, cells := 0, slots := 0, locals := 0 } : Room) #[(.ref a1), (.int (0 : Int32))] h0 (fun v h L => v = some (.int x0) ∧ Fr n0 L ∧ Keep h0 h []) := by
  refine Con.of (plainFor_of_name pn_0) ?_
  intro p e s m below meth c s₁ hx hby hml hZ hown hnm hret hlk X0 e0
  have N0 := Fr.nil n0
  refine go_cast (g' := mkF m 0 #[.val (.ref a1), .val (.int (0 : Int32))] []) ?_ (by first | (simp [entryFrame, mkF, argsToLocals, Value.category]; done) | rfl)
  refine go_getS (q := 3) (host := "") X0 hx hZ hown (Or.inl (w52 hw)) Via.refl e0 (Sta.ext O0.2 S_1) (hb hby d13_0) rfl ?_
  intro T1 X1 e1
  refine go_ifY (q := 28) X1 hx (hb hby d13_3) (XT.i0_ne_t (by decide)) (by decide) (by decide) ?_
  refine go_iload_n (q := 29) X1 hx (hb hby d13_28) (v := (0 : Int32)) rfl rfl ?_
  refine go_iconst (q := 30) X1 hx (hb hby d13_29) (v := (1 : Int32)) (by decide) rfl ?_
  refine go_ishl (q := 31) X1 hx (hb hby d13_30) (v := (0 : Int32)) (by decide) rfl ?_
  refine go_istore_n (q := 32) X1 hx (hb hby d13_31) (l' := #[.val (.ref a1), .val (.int (0 : Int32))]) rfl rfl ?_
  refine go_aload_n (q := 33) X1 hx (hb hby d13_32) (v := (.ref a1)) rfl rfl rfl ?_
  refine go_iload_n (q := 34) X1 hx (hb hby d13_33) (v := (0 : Int32)) rfl rfl ?_
  refine go_iinc (q := 37) X1 hx (hb hby d13_34) (x := (0 : Int32)) (v := (1 : Int32)) rfl (by first | rfl | decide) (l' := #[.val (.ref a1), .val (.int (1 : Int32))]) rfl rfl ?_
  refine go_baload (q := 38) (j := (0 : Int32)) (v := (.int x0.toInt8.toInt32)) X1 hx hZ e1 A_0 (by decide) rfl (hb hby d13_37) rfl ?_
  refine go_sipush (q := 41) X1 hx (hb hby d13_38) (v := (255 : Int32)) (by decide) rfl ?_
  refine go_iand (q := 42) X1 hx (hb hby d13_41) (v := (x0.toInt8.toInt32 &&& (255 : Int32))) rfl rfl ?_
  refine go_getS (q := 45) (host := "") X1 hx hZ hown (Or.inl (w53 hw)) Via.refl e1 (Sta.ext O0.2 S_2) (hb hby d13_42) rfl ?_
  intro T2 X2 e2
  refine go_ishl (q := 46) X2 hx (hb hby d13_45) (v := (x0.toInt8.toInt32 &&& (255 : Int32))) (own_shl0 _) rfl ?_
  refine go_aload_n (q := 47) X2 hx (hb hby d13_46) (v := (.ref a1)) rfl rfl rfl ?_
  refine go_iload_n (q := 48) X2 hx (hb hby d13_47) (v := (1 : Int32)) rfl rfl ?_
  refine go_baload (q := 49) (j := (1 : Int32)) (v := (.int (x0 >>> ((8 : Int32) &&& 31)).toInt8.toInt32)) X2 hx hZ e2 A_0 (by decide) rfl (hb hby d13_48) rfl ?_
  refine go_sipush (q := 52) X2 hx (hb hby d13_49) (v := (255 : Int32)) (by decide) rfl ?_
  refine go_iand (q := 53) X2 hx (hb hby d13_52) (v := ((x0 >>> ((8 : Int32) &&& 31)).toInt8.toInt32 &&& (255 : Int32))) rfl rfl ?_
  refine go_getS (q := 56) (host := "") X2 hx hZ hown (Or.inl (w54 hw)) Via.refl e2 (Sta.ext O0.2 S_3) (hb hby d13_53) rfl ?_
  intro T3 X3 e3
  refine go_ishl (q := 57) X3 hx (hb hby d13_56) (v := (((x0 >>> ((8 : Int32) &&& 31)).toInt8.toInt32 &&& (255 : Int32)) <<< ((8 : Int32) &&& 31))) rfl rfl ?_
  refine go_ior (q := 58) X3 hx (hb hby d13_57) (v := ((x0.toInt8.toInt32 &&& (255 : Int32)) ||| (((x0 >>> ((8 : Int32) &&& 31)).toInt8.toInt32 &&& (255 : Int32)) <<< ((8 : Int32) &&& 31)))) rfl rfl ?_
  refine go_i2c (q := 59) (v := x0) X3 hx (hb hby d13_58) (own_u16 hr_4) rfl ?_
  refine go_retI X3 hx hret hlk e3 (hb hby d13_59) (by simp) (own_chr hr_4).1 (by decide) (by decide) ?_
  exact ⟨rfl, N0, (Keep.refl h0 [])⟩
set_option maxRecDepth 65536 in
set_option maxHeartbeats 40000000 in
theorem b13_1 (l : Launch) (Z : State) (a0 : Array Value) (hw : ∀ d ∈ tables_1, d.before a0 Z = true) (a1 : Addr) (kb : ClassId) (x0 : Int32) (x1 : Int32) (x2 : Int32) (x3 : Int32) (h0 : Heap) (n0 : Nat) (O0 : Old Z n0 h0) (A_0 : Arv Z h0 a1 kb .byte (8 : Int32) [(.int x0.toInt8.toInt32), (.int (x0 >>> ((8 : Int32) &&& 31)).toInt8.toInt32), (.int x1.toInt8.toInt32), (.int (x1 >>> ((8 : Int32) &&& 31)).toInt8.toInt32), (.int x2.toInt8.toInt32), (.int (x2 >>> ((8 : Int32) &&& 31)).toInt8.toInt32), (.int x3.toInt8.toInt32), (.int (x3 >>> ((8 : Int32) &&& 31)).toInt8.toInt32)] (.int (0 : Int32))) (S_1 : Sta Z Z.heap "java/lang/StringUTF16" "$assertionsDisabled" "Z" (.int (1 : Int32))) (S_2 : Sta Z Z.heap "java/lang/StringUTF16" "HI_BYTE_SHIFT" "I" (.int (0 : Int32))) (S_3 : Sta Z Z.heap "java/lang/StringUTF16" "LO_BYTE_SHIFT" "I" (.int (8 : Int32))) (hr_4 : (0 ≤ x1.toInt ∧ x1.toInt ≤ 65535)) :
    Con l Z (⟨"java/lang/StringUTF16", "getChar", "([BI)C"⟩ : MethodName) jdk_52_method_5_code 2 (some .char) ({ frames := 0, cells := 0, slots := 0, locals := 0 } : Room) #[(.ref a1), (.int (1 : Int32))] h0 (fun v h L => v = some (.int x1) ∧ Fr n0 L ∧ Keep h0 h []) := by
  refine Con.of (plainFor_of_name pn_0) ?_
  intro p e s m below meth c s₁ hx hby hml hZ hown hnm hret hlk X0 e0
  have N0 := Fr.nil n0
  refine go_cast (g' := mkF m 0 #[.val (.ref a1), .val (.int (1 : Int32))] []) ?_ (by first | (simp [entryFrame, mkF, argsToLocals, Value.category]; done) | rfl)
  refine go_getS (q := 3) (host := "") X0 hx hZ hown (Or.inl (w52 hw)) Via.refl e0 (Sta.ext O0.2 S_1) (hb hby d13_0) rfl ?_
  intro T1 X1 e1
  refine go_ifY (q := 28) X1 hx (hb hby d13_3) (XT.i0_ne_t (by decide)) (by decide) (by decide) ?_
  refine go_iload_n (q := 29) X1 hx (hb hby d13_28) (v := (1 : Int32)) rfl rfl ?_
  refine go_iconst (q := 30) X1 hx (hb hby d13_29) (v := (1 : Int32)) (by decide) rfl ?_
  refine go_ishl (q := 31) X1 hx (hb hby d13_30) (v := (2 : Int32)) (by decide) rfl ?_
  refine go_istore_n (q := 32) X1 hx (hb hby d13_31) (l' := #[.val (.ref a1), .val (.int (2 : Int32))]) rfl rfl ?_
  refine go_aload_n (q := 33) X1 hx (hb hby d13_32) (v := (.ref a1)) rfl rfl rfl ?_
  refine go_iload_n (q := 34) X1 hx (hb hby d13_33) (v := (2 : Int32)) rfl rfl ?_
  refine go_iinc (q := 37) X1 hx (hb hby d13_34) (x := (2 : Int32)) (v := (3 : Int32)) rfl (by first | rfl | decide) (l' := #[.val (.ref a1), .val (.int (3 : Int32))]) rfl rfl ?_
  refine go_baload (q := 38) (j := (2 : Int32)) (v := (.int x1.toInt8.toInt32)) X1 hx hZ e1 A_0 (by decide) rfl (hb hby d13_37) rfl ?_
  refine go_sipush (q := 41) X1 hx (hb hby d13_38) (v := (255 : Int32)) (by decide) rfl ?_
  refine go_iand (q := 42) X1 hx (hb hby d13_41) (v := (x1.toInt8.toInt32 &&& (255 : Int32))) rfl rfl ?_
  refine go_getS (q := 45) (host := "") X1 hx hZ hown (Or.inl (w53 hw)) Via.refl e1 (Sta.ext O0.2 S_2) (hb hby d13_42) rfl ?_
  intro T2 X2 e2
  refine go_ishl (q := 46) X2 hx (hb hby d13_45) (v := (x1.toInt8.toInt32 &&& (255 : Int32))) (own_shl0 _) rfl ?_
  refine go_aload_n (q := 47) X2 hx (hb hby d13_46) (v := (.ref a1)) rfl rfl rfl ?_
  refine go_iload_n (q := 48) X2 hx (hb hby d13_47) (v := (3 : Int32)) rfl rfl ?_
  refine go_baload (q := 49) (j := (3 : Int32)) (v := (.int (x1 >>> ((8 : Int32) &&& 31)).toInt8.toInt32)) X2 hx hZ e2 A_0 (by decide) rfl (hb hby d13_48) rfl ?_
  refine go_sipush (q := 52) X2 hx (hb hby d13_49) (v := (255 : Int32)) (by decide) rfl ?_
  refine go_iand (q := 53) X2 hx (hb hby d13_52) (v := ((x1 >>> ((8 : Int32) &&& 31)).toInt8.toInt32 &&& (255 : Int32))) rfl rfl ?_
  refine go_getS (q := 56) (host := "") X2 hx hZ hown (Or.inl (w54 hw)) Via.refl e2 (Sta.ext O0.2 S_3) (hb hby d13_53) rfl ?_
  intro T3 X3 e3
  refine go_ishl (q := 57) X3 hx (hb hby d13_56) (v := (((x1 >>> ((8 : Int32) &&& 31)).toInt8.toInt32 &&& (255 : Int32)) <<< ((8 : Int32) &&& 31))) rfl rfl ?_
  refine go_ior (q := 58) X3 hx (hb hby d13_57) (v := ((x1.toInt8.toInt32 &&& (255 : Int32)) ||| (((x1 >>> ((8 : Int32) &&& 31)).toInt8.toInt32 &&& (255 : Int32)) <<< ((8 : Int32) &&& 31)))) rfl rfl ?_
  refine go_i2c (q := 59) (v := x1) X3 hx (hb hby d13_58) (own_u16 hr_4) rfl ?_
  refine go_retI X3 hx hret hlk e3 (hb hby d13_59) (by simp) (own_chr hr_4).1 (by decide) (by decide) ?_
  exact ⟨rfl, N0, (Keep.refl h0 [])⟩
set_option maxRecDepth 65536 in
set_option maxHeartbeats 40000000 in
theorem b13_2 (l : Launch) (Z : State) (a0 : Array Value) (hw : ∀ d ∈ tables_1, d.before a0 Z = true) (a1 : Addr) (kb : ClassId) (x0 : Int32) (x1 : Int32) (x2 : Int32) (x3 : Int32) (h0 : Heap) (n0 : Nat) (O0 : Old Z n0 h0) (A_0 : Arv Z h0 a1 kb .byte (8 : Int32) [(.int x0.toInt8.toInt32), (.int (x0 >>> ((8 : Int32) &&& 31)).toInt8.toInt32), (.int x1.toInt8.toInt32), (.int (x1 >>> ((8 : Int32) &&& 31)).toInt8.toInt32), (.int x2.toInt8.toInt32), (.int (x2 >>> ((8 : Int32) &&& 31)).toInt8.toInt32), (.int x3.toInt8.toInt32), (.int (x3 >>> ((8 : Int32) &&& 31)).toInt8.toInt32)] (.int (0 : Int32))) (S_1 : Sta Z Z.heap "java/lang/StringUTF16" "$assertionsDisabled" "Z" (.int (1 : Int32))) (S_2 : Sta Z Z.heap "java/lang/StringUTF16" "HI_BYTE_SHIFT" "I" (.int (0 : Int32))) (S_3 : Sta Z Z.heap "java/lang/StringUTF16" "LO_BYTE_SHIFT" "I" (.int (8 : Int32))) (hr_4 : (0 ≤ x2.toInt ∧ x2.toInt ≤ 65535)) :
    Con l Z (⟨"java/lang/StringUTF16", "getChar", "([BI)C"⟩ : MethodName) jdk_52_method_5_code 2 (some .char) ({ frames := 0, cells := 0, slots := 0, locals := 0 } : Room) #[(.ref a1), (.int (2 : Int32))] h0 (fun v h L => v = some (.int x2) ∧ Fr n0 L ∧ Keep h0 h []) := by
  refine Con.of (plainFor_of_name pn_0) ?_
  intro p e s m below meth c s₁ hx hby hml hZ hown hnm hret hlk X0 e0
  have N0 := Fr.nil n0
  refine go_cast (g' := mkF m 0 #[.val (.ref a1), .val (.int (2 : Int32))] []) ?_ (by first | (simp [entryFrame, mkF, argsToLocals, Value.category]; done) | rfl)
  refine go_getS (q := 3) (host := "") X0 hx hZ hown (Or.inl (w52 hw)) Via.refl e0 (Sta.ext O0.2 S_1) (hb hby d13_0) rfl ?_
  intro T1 X1 e1
  refine go_ifY (q := 28) X1 hx (hb hby d13_3) (XT.i0_ne_t (by decide)) (by decide) (by decide) ?_
  refine go_iload_n (q := 29) X1 hx (hb hby d13_28) (v := (2 : Int32)) rfl rfl ?_
  refine go_iconst (q := 30) X1 hx (hb hby d13_29) (v := (1 : Int32)) (by decide) rfl ?_
  refine go_ishl (q := 31) X1 hx (hb hby d13_30) (v := (4 : Int32)) (by decide) rfl ?_
  refine go_istore_n (q := 32) X1 hx (hb hby d13_31) (l' := #[.val (.ref a1), .val (.int (4 : Int32))]) rfl rfl ?_
  refine go_aload_n (q := 33) X1 hx (hb hby d13_32) (v := (.ref a1)) rfl rfl rfl ?_
  refine go_iload_n (q := 34) X1 hx (hb hby d13_33) (v := (4 : Int32)) rfl rfl ?_
  refine go_iinc (q := 37) X1 hx (hb hby d13_34) (x := (4 : Int32)) (v := (5 : Int32)) rfl (by first | rfl | decide) (l' := #[.val (.ref a1), .val (.int (5 : Int32))]) rfl rfl ?_
  refine go_baload (q := 38) (j := (4 : Int32)) (v := (.int x2.toInt8.toInt32)) X1 hx hZ e1 A_0 (by decide) rfl (hb hby d13_37) rfl ?_
  refine go_sipush (q := 41) X1 hx (hb hby d13_38) (v := (255 : Int32)) (by decide) rfl ?_
  refine go_iand (q := 42) X1 hx (hb hby d13_41) (v := (x2.toInt8.toInt32 &&& (255 : Int32))) rfl rfl ?_
  refine go_getS (q := 45) (host := "") X1 hx hZ hown (Or.inl (w53 hw)) Via.refl e1 (Sta.ext O0.2 S_2) (hb hby d13_42) rfl ?_
  intro T2 X2 e2
  refine go_ishl (q := 46) X2 hx (hb hby d13_45) (v := (x2.toInt8.toInt32 &&& (255 : Int32))) (own_shl0 _) rfl ?_
  refine go_aload_n (q := 47) X2 hx (hb hby d13_46) (v := (.ref a1)) rfl rfl rfl ?_
  refine go_iload_n (q := 48) X2 hx (hb hby d13_47) (v := (5 : Int32)) rfl rfl ?_
  refine go_baload (q := 49) (j := (5 : Int32)) (v := (.int (x2 >>> ((8 : Int32) &&& 31)).toInt8.toInt32)) X2 hx hZ e2 A_0 (by decide) rfl (hb hby d13_48) rfl ?_
  refine go_sipush (q := 52) X2 hx (hb hby d13_49) (v := (255 : Int32)) (by decide) rfl ?_
  refine go_iand (q := 53) X2 hx (hb hby d13_52) (v := ((x2 >>> ((8 : Int32) &&& 31)).toInt8.toInt32 &&& (255 : Int32))) rfl rfl ?_
  refine go_getS (q := 56) (host := "") X2 hx hZ hown (Or.inl (w54 hw)) Via.refl e2 (Sta.ext O0.2 S_3) (hb hby d13_53) rfl ?_
  intro T3 X3 e3
  refine go_ishl (q := 57) X3 hx (hb hby d13_56) (v := (((x2 >>> ((8 : Int32) &&& 31)).toInt8.toInt32 &&& (255 : Int32)) <<< ((8 : Int32) &&& 31))) rfl rfl ?_
  refine go_ior (q := 58) X3 hx (hb hby d13_57) (v := ((x2.toInt8.toInt32 &&& (255 : Int32)) ||| (((x2 >>> ((8 : Int32) &&& 31)).toInt8.toInt32 &&& (255 : Int32)) <<< ((8 : Int32) &&& 31)))) rfl rfl ?_
  refine go_i2c (q := 59) (v := x2) X3 hx (hb hby d13_58) (own_u16 hr_4) rfl ?_
  refine go_retI X3 hx hret hlk e3 (hb hby d13_59) (by simp) (own_chr hr_4).1 (by decide) (by decide) ?_
  exact ⟨rfl, N0, (Keep.refl h0 [])⟩
set_option maxRecDepth 65536 in
set_option maxHeartbeats 40000000 in
theorem b13_3 (l : Launch) (Z : State) (a0 : Array Value) (hw : ∀ d ∈ tables_1, d.before a0 Z = true) (a1 : Addr) (kb : ClassId) (x0 : Int32) (x1 : Int32) (x2 : Int32) (x3 : Int32) (h0 : Heap) (n0 : Nat) (O0 : Old Z n0 h0) (A_0 : Arv Z h0 a1 kb .byte (8 : Int32) [(.int x0.toInt8.toInt32), (.int (x0 >>> ((8 : Int32) &&& 31)).toInt8.toInt32), (.int x1.toInt8.toInt32), (.int (x1 >>> ((8 : Int32) &&& 31)).toInt8.toInt32), (.int x2.toInt8.toInt32), (.int (x2 >>> ((8 : Int32) &&& 31)).toInt8.toInt32), (.int x3.toInt8.toInt32), (.int (x3 >>> ((8 : Int32) &&& 31)).toInt8.toInt32)] (.int (0 : Int32))) (S_1 : Sta Z Z.heap "java/lang/StringUTF16" "$assertionsDisabled" "Z" (.int (1 : Int32))) (S_2 : Sta Z Z.heap "java/lang/StringUTF16" "HI_BYTE_SHIFT" "I" (.int (0 : Int32))) (S_3 : Sta Z Z.heap "java/lang/StringUTF16" "LO_BYTE_SHIFT" "I" (.int (8 : Int32))) (hr_4 : (0 ≤ x3.toInt ∧ x3.toInt ≤ 65535)) :
    Con l Z (⟨"java/lang/StringUTF16", "getChar", "([BI)C"⟩ : MethodName) jdk_52_method_5_code 2 (some .char) ({ frames := 0, cells := 0, slots := 0, locals := 0 } : Room) #[(.ref a1), (.int (3 : Int32))] h0 (fun v h L => v = some (.int x3) ∧ Fr n0 L ∧ Keep h0 h []) := by
  refine Con.of (plainFor_of_name pn_0) ?_
  intro p e s m below meth c s₁ hx hby hml hZ hown hnm hret hlk X0 e0
  have N0 := Fr.nil n0
  refine go_cast (g' := mkF m 0 #[.val (.ref a1), .val (.int (3 : Int32))] []) ?_ (by first | (simp [entryFrame, mkF, argsToLocals, Value.category]; done) | rfl)
  refine go_getS (q := 3) (host := "") X0 hx hZ hown (Or.inl (w52 hw)) Via.refl e0 (Sta.ext O0.2 S_1) (hb hby d13_0) rfl ?_
  intro T1 X1 e1
  refine go_ifY (q := 28) X1 hx (hb hby d13_3) (XT.i0_ne_t (by decide)) (by decide) (by decide) ?_
  refine go_iload_n (q := 29) X1 hx (hb hby d13_28) (v := (3 : Int32)) rfl rfl ?_
  refine go_iconst (q := 30) X1 hx (hb hby d13_29) (v := (1 : Int32)) (by decide) rfl ?_
  refine go_ishl (q := 31) X1 hx (hb hby d13_30) (v := (6 : Int32)) (by decide) rfl ?_
  refine go_istore_n (q := 32) X1 hx (hb hby d13_31) (l' := #[.val (.ref a1), .val (.int (6 : Int32))]) rfl rfl ?_
  refine go_aload_n (q := 33) X1 hx (hb hby d13_32) (v := (.ref a1)) rfl rfl rfl ?_
  refine go_iload_n (q := 34) X1 hx (hb hby d13_33) (v := (6 : Int32)) rfl rfl ?_
  refine go_iinc (q := 37) X1 hx (hb hby d13_34) (x := (6 : Int32)) (v := (7 : Int32)) rfl (by first | rfl | decide) (l' := #[.val (.ref a1), .val (.int (7 : Int32))]) rfl rfl ?_
  refine go_baload (q := 38) (j := (6 : Int32)) (v := (.int x3.toInt8.toInt32)) X1 hx hZ e1 A_0 (by decide) rfl (hb hby d13_37) rfl ?_
  refine go_sipush (q := 41) X1 hx (hb hby d13_38) (v := (255 : Int32)) (by decide) rfl ?_
  refine go_iand (q := 42) X1 hx (hb hby d13_41) (v := (x3.toInt8.toInt32 &&& (255 : Int32))) rfl rfl ?_
  refine go_getS (q := 45) (host := "") X1 hx hZ hown (Or.inl (w53 hw)) Via.refl e1 (Sta.ext O0.2 S_2) (hb hby d13_42) rfl ?_
  intro T2 X2 e2
  refine go_ishl (q := 46) X2 hx (hb hby d13_45) (v := (x3.toInt8.toInt32 &&& (255 : Int32))) (own_shl0 _) rfl ?_
  refine go_aload_n (q := 47) X2 hx (hb hby d13_46) (v := (.ref a1)) rfl rfl rfl ?_
  refine go_iload_n (q := 48) X2 hx (hb hby d13_47) (v := (7 : Int32)) rfl rfl ?_
  refine go_baload (q := 49) (j := (7 : Int32)) (v := (.int (x3 >>> ((8 : Int32) &&& 31)).toInt8.toInt32)) X2 hx hZ e2 A_0 (by decide) rfl (hb hby d13_48) rfl ?_
  refine go_sipush (q := 52) X2 hx (hb hby d13_49) (v := (255 : Int32)) (by decide) rfl ?_
  refine go_iand (q := 53) X2 hx (hb hby d13_52) (v := ((x3 >>> ((8 : Int32) &&& 31)).toInt8.toInt32 &&& (255 : Int32))) rfl rfl ?_
  refine go_getS (q := 56) (host := "") X2 hx hZ hown (Or.inl (w54 hw)) Via.refl e2 (Sta.ext O0.2 S_3) (hb hby d13_53) rfl ?_
  intro T3 X3 e3
  refine go_ishl (q := 57) X3 hx (hb hby d13_56) (v := (((x3 >>> ((8 : Int32) &&& 31)).toInt8.toInt32 &&& (255 : Int32)) <<< ((8 : Int32) &&& 31))) rfl rfl ?_
  refine go_ior (q := 58) X3 hx (hb hby d13_57) (v := ((x3.toInt8.toInt32 &&& (255 : Int32)) ||| (((x3 >>> ((8 : Int32) &&& 31)).toInt8.toInt32 &&& (255 : Int32)) <<< ((8 : Int32) &&& 31)))) rfl rfl ?_
  refine go_i2c (q := 59) (v := x3) X3 hx (hb hby d13_58) (own_u16 hr_4) rfl ?_
  refine go_retI X3 hx hret hlk e3 (hb hby d13_59) (by simp) (own_chr hr_4).1 (by decide) (by decide) ?_
  exact ⟨rfl, N0, (Keep.refl h0 [])⟩
set_option maxRecDepth 65536 in
set_option maxHeartbeats 40000000 in
theorem b5 (l : Launch) (Z : State) (a0 : Array Value) (hw : ∀ d ∈ tables_1, d.before a0 Z = true) (a1 : Addr) (kc : ClassId) (dc : Value) (x0 : Int32) (x1 : Int32) (x2 : Int32) (x3 : Int32) (h0 : Heap) (n0 : Nat) (O0 : Old Z n0 h0) (A_0 : Arv Z h0 a1 kc .char (4 : Int32) [(.int x0), (.int x1), (.int x2), (.int x3)] dc) (hr_1 : (¬ (255 : Int32) < x0)) (hr_2 : (¬ (255 : Int32) < x1)) (hr_3 : (¬ (255 : Int32) < x2)) (hr_4 : (¬ (255 : Int32) < x3)) :
    Con l Z (⟨"java/lang/StringUTF16", "compress", "([CII)[B"⟩ : MethodName) jdk_52_method_16_code 6 (some (.array .byte)) ({ frames := 1, cells := 1, slots := 4, locals := 18 } : Room) #[(.ref a1), (.int (0 : Int32)), (.int (4 : Int32))] h0 (fun v h L => ∃ (r : Addr) (kb : ClassId), v = some (.ref r) ∧ Fr n0 L ∧ Keep h0 h [] ∧ h0.size ≤ r ∧ Arv Z h r kb .byte (4 : Int32) [(.int x0.toInt8.toInt32), (.int x1.toInt8.toInt32), (.int x2.toInt8.toInt32), (.int x3.toInt8.toInt32)] (.int (0 : Int32))) := by
  refine Con.of (plainFor_of_name pn_0) ?_
  intro p e s m below meth c s₁ hx hby hml hZ hown hnm hret hlk X0 e0
  have N0 := Fr.nil n0
  refine go_cast (g' := mkF m 0 #[.val (.ref a1), .val (.int (0 : Int32)), .val (.int (4 : Int32)), .unset, .unset, .unset] []) ?_ (by first | (simp [entryFrame, mkF, argsToLocals, Value.category]; done) | rfl)
  refine go_iload_n (q := 1) X0 hx (hb hby d5_0) (v := (4 : Int32)) rfl rfl ?_
  refine go_newP (q := 3) (ty := .byte) (cap := 4) (vs := [(.int (0 : Int32)), (.int (0 : Int32)), (.int (0 : Int32)), (.int (0 : Int32))]) (dv := (.int (0 : Int32))) X0 hx hZ rfl (w24 hw) e0 (hb hby d5_1) (by decide) (by decide) (by decide) (by decide) (by decide) rfl rfl rfl ?_
  intro T1 h1 ob1 k1 g1 X1 e1 E1 A1
  have fr1 : n0 ≤ ob1 := own_ge O0 g1
  have sn1 : h0.size ≤ ob1 := g1 ▸ (Nat.le_refl _)
  have ne_a1_ob1 : a1 ≠ ob1 := own_lt g1 A_0.lt
  refine go_astore_n (q := 4) X1 hx (hb hby d5_3) rfl (l' := #[.val (.ref a1), .val (.int (0 : Int32)), .val (.int (4 : Int32)), .val (.ref ob1), .unset, .unset]) rfl rfl ?_
  refine go_aload_n (q := 5) X1 hx (hb hby d5_4) (v := (.ref a1)) rfl rfl rfl ?_
  refine go_iload_n (q := 6) X1 hx (hb hby d5_5) (v := (0 : Int32)) rfl rfl ?_
  refine go_aload_n (q := 7) X1 hx (hb hby d5_6) (v := (.ref ob1)) rfl rfl rfl ?_
  refine go_iconst (q := 8) X1 hx (hb hby d5_7) (v := (0 : Int32)) (by decide) rfl ?_
  refine go_iload_n (q := 9) X1 hx (hb hby d5_8) (v := (4 : Int32)) rfl rfl ?_
  have f2 : Arv Z h1 a1 kc .char (4 : Int32) [(.int x0), (.int x1), (.int x2), (.int x3)] dc := (A_0.ext E1)
  have O3 : Old Z n0 h1 := (O0.ext E1)
  refine go_static (q := 12) X1 hx hZ hown (y := (⟨"java/lang/StringUTF16", "compress", "([CI[BII)I"⟩ : MethodName)) (w25 hw) (w26 hw) (w22 hw) (w27 hw) (by decide) e1 (b6 l Z a0 hw a1 kc dc ob1 k1 x0 x1 x2 x3 h1 n0 O3 f2 A1 ne_a1_ob1 fr1 hr_1 hr_2 hr_3 hr_4) (argsL := [(.ref a1), (.int (0 : Int32)), (.ref ob1), (.int (0 : Int32)), (.int (4 : Int32))]) (rest := []) rfl (lenOf pd_3 rfl) rfl (by rw [hml]; rfl) (W := 0) (Nat.le_of_eq rfl) (hb hby d5_9) (by decide) (by decide) (by decide) (by decide) rfl ?_
  rintro T4 h4 _ L4 X4 e4 ⟨rfl, M4, K4, p4_0⟩
  have N4 := Fr.app N0 M4
  refine go_istore (q := 14) X4 hx (hb hby d5_12) (l' := #[.val (.ref a1), .val (.int (0 : Int32)), .val (.int (4 : Int32)), .val (.ref ob1), .val (.int (4 : Int32)), .unset]) rfl rfl ?_
  refine go_iload (q := 16) X4 hx (hb hby d5_14) (v := (4 : Int32)) rfl rfl ?_
  refine go_iload_n (q := 17) X4 hx (hb hby d5_16) (v := (4 : Int32)) rfl rfl ?_
  refine go_icmpY (q := 57) X4 hx (hb hby d5_17) (XT.ii_eq_t (by decide)) (by decide) (by decide) ?_
  refine go_aload_n (q := 58) X4 hx (hb hby d5_57) (v := (.ref ob1)) rfl rfl rfl ?_
  refine go_retA X4 hx hret hlk e4 (hb hby d5_58) rfl rfl rfl (by decide) (by decide) ?_
  exact ⟨ob1, k1, rfl, N4, (((Keep.refl h0 []).ext E1).trans K4 (allS (P := fun x => x ∈ [] ∨ h0.size ≤ x) (Or.inr sn1) all0)), sn1, p4_0⟩
set_option maxRecDepth 65536 in
set_option maxHeartbeats 40000000 in
theorem b5_1 (l : Launch) (Z : State) (a0 : Array Value) (hw : ∀ d ∈ tables_1, d.before a0 Z = true) (a1 : Addr) (kc : ClassId) (dc : Value) (x0 : Int32) (x1 : Int32) (x2 : Int32) (x3 : Int32) (h0 : Heap) (n0 : Nat) (O0 : Old Z n0 h0) (A_0 : Arv Z h0 a1 kc .char (4 : Int32) [(.int x0), (.int x1), (.int x2), (.int x3)] dc) (S_1 : Sta Z Z.heap "java/lang/StringUTF16" "$assertionsDisabled" "Z" (.int (1 : Int32))) (S_2 : Sta Z Z.heap "java/lang/StringUTF16" "HI_BYTE_SHIFT" "I" (.int (0 : Int32))) (S_3 : Sta Z Z.heap "java/lang/StringUTF16" "LO_BYTE_SHIFT" "I" (.int (8 : Int32))) (hr_4 : ((255 : Int32) < x0)) (hr_5 : (0 ≤ x0.toInt ∧ x0.toInt ≤ 65535)) (hr_6 : (0 ≤ x1.toInt ∧ x1.toInt ≤ 65535)) (hr_7 : (0 ≤ x2.toInt ∧ x2.toInt ≤ 65535)) (hr_8 : (0 ≤ x3.toInt ∧ x3.toInt ≤ 65535)) :
    Con l Z (⟨"java/lang/StringUTF16", "compress", "([CII)[B"⟩ : MethodName) jdk_52_method_16_code 6 (some (.array .byte)) ({ frames := 3, cells := 2, slots := 12, locals := 40 } : Room) #[(.ref a1), (.int (0 : Int32)), (.int (4 : Int32))] h0 (fun v h L => ∃ (r : Addr) (kb : ClassId), v = some (.ref r) ∧ Fr n0 L ∧ Keep h0 h [] ∧ h0.size ≤ r ∧ Arv Z h r kb .byte (8 : Int32) [(.int x0.toInt8.toInt32), (.int (x0 >>> ((8 : Int32) &&& 31)).toInt8.toInt32), (.int x1.toInt8.toInt32), (.int (x1 >>> ((8 : Int32) &&& 31)).toInt8.toInt32), (.int x2.toInt8.toInt32), (.int (x2 >>> ((8 : Int32) &&& 31)).toInt8.toInt32), (.int x3.toInt8.toInt32), (.int (x3 >>> ((8 : Int32) &&& 31)).toInt8.toInt32)] (.int (0 : Int32))) := by
  refine Con.of (plainFor_of_name pn_0) ?_
  intro p e s m below meth c s₁ hx hby hml hZ hown hnm hret hlk X0 e0
  have N0 := Fr.nil n0
  refine go_cast (g' := mkF m 0 #[.val (.ref a1), .val (.int (0 : Int32)), .val (.int (4 : Int32)), .unset, .unset, .unset] []) ?_ (by first | (simp [entryFrame, mkF, argsToLocals, Value.category]; done) | rfl)
  refine go_iload_n (q := 1) X0 hx (hb hby d5_0) (v := (4 : Int32)) rfl rfl ?_
  refine go_newP (q := 3) (ty := .byte) (cap := 4) (vs := [(.int (0 : Int32)), (.int (0 : Int32)), (.int (0 : Int32)), (.int (0 : Int32))]) (dv := (.int (0 : Int32))) X0 hx hZ rfl (w24 hw) e0 (hb hby d5_1) (by decide) (by decide) (by decide) (by decide) (by decide) rfl rfl rfl ?_
  intro T1 h1 ob1 k1 g1 X1 e1 E1 A1
  have fr1 : n0 ≤ ob1 := own_ge O0 g1
  have sn1 : h0.size ≤ ob1 := g1 ▸ (Nat.le_refl _)
  have ne_a1_ob1 : a1 ≠ ob1 := own_lt g1 A_0.lt
  refine go_astore_n (q := 4) X1 hx (hb hby d5_3) rfl (l' := #[.val (.ref a1), .val (.int (0 : Int32)), .val (.int (4 : Int32)), .val (.ref ob1), .unset, .unset]) rfl rfl ?_
  refine go_aload_n (q := 5) X1 hx (hb hby d5_4) (v := (.ref a1)) rfl rfl rfl ?_
  refine go_iload_n (q := 6) X1 hx (hb hby d5_5) (v := (0 : Int32)) rfl rfl ?_
  refine go_aload_n (q := 7) X1 hx (hb hby d5_6) (v := (.ref ob1)) rfl rfl rfl ?_
  refine go_iconst (q := 8) X1 hx (hb hby d5_7) (v := (0 : Int32)) (by decide) rfl ?_
  refine go_iload_n (q := 9) X1 hx (hb hby d5_8) (v := (4 : Int32)) rfl rfl ?_
  have f2 : Arv Z h1 a1 kc .char (4 : Int32) [(.int x0), (.int x1), (.int x2), (.int x3)] dc := (A_0.ext E1)
  have O3 : Old Z n0 h1 := (O0.ext E1)
  refine go_static (q := 12) X1 hx hZ hown (y := (⟨"java/lang/StringUTF16", "compress", "([CI[BII)I"⟩ : MethodName)) (w25 hw) (w26 hw) (w22 hw) (w27 hw) (by decide) e1 (b6_1 l Z a0 hw a1 kc dc ob1 k1 x0 x1 x2 x3 h1 n0 O3 f2 A1 ne_a1_ob1 fr1 hr_4) (argsL := [(.ref a1), (.int (0 : Int32)), (.ref ob1), (.int (0 : Int32)), (.int (4 : Int32))]) (rest := []) rfl (lenOf pd_3 rfl) rfl (by rw [hml]; rfl) (W := 0) (Nat.le_of_eq rfl) (hb hby d5_9) (by decide) (by decide) (by decide) (by decide) rfl ?_
  rintro T4 h4 _ L4 X4 e4 ⟨rfl, M4, K4⟩
  have N4 := Fr.app N0 M4
  refine go_istore (q := 14) X4 hx (hb hby d5_12) (l' := #[.val (.ref a1), .val (.int (0 : Int32)), .val (.int (4 : Int32)), .val (.ref ob1), .val (.int (0 : Int32)), .unset]) rfl rfl ?_
  refine go_iload (q := 16) X4 hx (hb hby d5_14) (v := (0 : Int32)) rfl rfl ?_
  refine go_iload_n (q := 17) X4 hx (hb hby d5_16) (v := (4 : Int32)) rfl rfl ?_
  refine go_icmpN (q := 20) X4 hx (hb hby d5_17) (XT.ii_eq_f (by decide)) rfl ?_
  refine go_aload_n (q := 21) X4 hx (hb hby d5_20) (v := (.ref a1)) rfl rfl rfl ?_
  refine go_iload_n (q := 22) X4 hx (hb hby d5_21) (v := (0 : Int32)) rfl rfl ?_
  refine go_iload_n (q := 23) X4 hx (hb hby d5_22) (v := (4 : Int32)) rfl rfl ?_
  have f5 : Arv Z h4 a1 kc .char (4 : Int32) [(.int x0), (.int x1), (.int x2), (.int x3)] dc := (f2.keep K4 (ninS ne_a1_ob1 nin0))
  have O6 : Old Z n0 h4 := (O3.keep K4 (allS fr1 all0))
  refine go_static (q := 26) X4 hx hZ hown (y := (⟨"java/lang/StringUTF16", "toBytes", "([CII)[B"⟩ : MethodName)) (w39 hw) (w40 hw) (w22 hw) (w41 hw) (by decide) e4 (b9 l Z a0 hw a1 kc dc x0 x1 x2 x3 h4 n0 O6 f5 S_1 S_2 S_3) (argsL := [(.ref a1), (.int (0 : Int32)), (.int (4 : Int32))]) (rest := []) rfl (lenOf pd_4 rfl) rfl (by rw [hml]; rfl) (W := 0) (Nat.le_of_eq rfl) (hb hby d5_23) (by decide) (by decide) (by decide) (by decide) rfl ?_
  rintro T7 h7 _ L7 X7 e7 ⟨r_7, kb_7, rfl, M7, K7, p7_0, p7_1⟩
  have N7 := Fr.app N4 M7
  have fr_r_7 : n0 ≤ r_7 := Nat.le_trans (own_le O6) p7_0
  have sn_r_7 : h0.size ≤ r_7 := Nat.le_trans (Nat.le_trans (Nat.le_trans (Nat.le_refl _) E1.1) K4.1) p7_0
  have ne_a1_r_7 : a1 ≠ r_7 := own_ltg p7_0 f5.lt
  refine go_astore (q := 28) X7 hx (hb hby d5_26) rfl (l' := #[.val (.ref a1), .val (.int (0 : Int32)), .val (.int (4 : Int32)), .val (.ref ob1), .val (.int (0 : Int32)), .val (.ref r_7)]) rfl rfl ?_
  refine go_aload (q := 30) X7 hx (hb hby d5_28) (v := (.ref r_7)) rfl rfl rfl ?_
  refine go_iload (q := 32) X7 hx (hb hby d5_30) (v := (0 : Int32)) rfl rfl ?_
  have O8 : Old Z n0 h7 := (O6.keep K7 all0)
  refine go_static (q := 35) X7 hx hZ hown (y := (⟨"java/lang/StringUTF16", "getChar", "([BI)C"⟩ : MethodName)) (w55 hw) (w56 hw) (w22 hw) (w57 hw) (by decide) e7 (b13 l Z a0 hw r_7 kb_7 x0 x1 x2 x3 h7 n0 O8 p7_1 S_1 S_2 S_3 hr_5) (argsL := [(.ref r_7), (.int (0 : Int32))]) (rest := []) rfl (lenOf pd_5 rfl) rfl (by rw [hml]; rfl) (W := 0) (Nat.le_of_eq rfl) (hb hby d5_32) (by decide) (by decide) (by decide) (by decide) rfl ?_
  rintro T9 h9 _ L9 X9 e9 ⟨rfl, M9, K9⟩
  have N9 := Fr.app N7 M9
  refine go_sipush (q := 38) X9 hx (hb hby d5_35) (v := (255 : Int32)) (by decide) rfl ?_
  refine go_icmpY (q := 54) X9 hx (hb hby d5_38) (XT.ii_gt_t hr_4) (by decide) (by decide) ?_
  refine go_aload (q := 56) X9 hx (hb hby d5_54) (v := (.ref r_7)) rfl rfl rfl ?_
  have f10 : Arv Z h9 r_7 kb_7 .byte (8 : Int32) [(.int x0.toInt8.toInt32), (.int (x0 >>> ((8 : Int32) &&& 31)).toInt8.toInt32), (.int x1.toInt8.toInt32), (.int (x1 >>> ((8 : Int32) &&& 31)).toInt8.toInt32), (.int x2.toInt8.toInt32), (.int (x2 >>> ((8 : Int32) &&& 31)).toInt8.toInt32), (.int x3.toInt8.toInt32), (.int (x3 >>> ((8 : Int32) &&& 31)).toInt8.toInt32)] (.int (0 : Int32)) := (p7_1.keep K9 nin0)
  refine go_retA X9 hx hret hlk e9 (hb hby d5_56) rfl rfl rfl (by decide) (by decide) ?_
  exact ⟨r_7, kb_7, rfl, N9, (((((Keep.refl h0 []).ext E1).trans K4 (allS (P := fun x => x ∈ [] ∨ h0.size ≤ x) (Or.inr sn1) all0)).trans K7 all0).trans K9 all0), sn_r_7, f10⟩
set_option maxRecDepth 65536 in
set_option maxHeartbeats 40000000 in
theorem b5_2 (l : Launch) (Z : State) (a0 : Array Value) (hw : ∀ d ∈ tables_1, d.before a0 Z = true) (a1 : Addr) (kc : ClassId) (dc : Value) (x0 : Int32) (x1 : Int32) (x2 : Int32) (x3 : Int32) (h0 : Heap) (n0 : Nat) (O0 : Old Z n0 h0) (A_0 : Arv Z h0 a1 kc .char (4 : Int32) [(.int x0), (.int x1), (.int x2), (.int x3)] dc) (S_1 : Sta Z Z.heap "java/lang/StringUTF16" "$assertionsDisabled" "Z" (.int (1 : Int32))) (S_2 : Sta Z Z.heap "java/lang/StringUTF16" "HI_BYTE_SHIFT" "I" (.int (0 : Int32))) (S_3 : Sta Z Z.heap "java/lang/StringUTF16" "LO_BYTE_SHIFT" "I" (.int (8 : Int32))) (hr_4 : (¬ (255 : Int32) < x0)) (hr_5 : ((255 : Int32) < x1)) (hr_6 : (0 ≤ x0.toInt ∧ x0.toInt ≤ 65535)) (hr_7 : (0 ≤ x1.toInt ∧ x1.toInt ≤ 65535)) (hr_8 : (0 ≤ x2.toInt ∧ x2.toInt ≤ 65535)) (hr_9 : (0 ≤ x3.toInt ∧ x3.toInt ≤ 65535)) :
    Con l Z (⟨"java/lang/StringUTF16", "compress", "([CII)[B"⟩ : MethodName) jdk_52_method_16_code 6 (some (.array .byte)) ({ frames := 3, cells := 2, slots := 12, locals := 40 } : Room) #[(.ref a1), (.int (0 : Int32)), (.int (4 : Int32))] h0 (fun v h L => ∃ (r : Addr) (kb : ClassId), v = some (.ref r) ∧ Fr n0 L ∧ Keep h0 h [] ∧ h0.size ≤ r ∧ Arv Z h r kb .byte (8 : Int32) [(.int x0.toInt8.toInt32), (.int (x0 >>> ((8 : Int32) &&& 31)).toInt8.toInt32), (.int x1.toInt8.toInt32), (.int (x1 >>> ((8 : Int32) &&& 31)).toInt8.toInt32), (.int x2.toInt8.toInt32), (.int (x2 >>> ((8 : Int32) &&& 31)).toInt8.toInt32), (.int x3.toInt8.toInt32), (.int (x3 >>> ((8 : Int32) &&& 31)).toInt8.toInt32)] (.int (0 : Int32))) := by
  refine Con.of (plainFor_of_name pn_0) ?_
  intro p e s m below meth c s₁ hx hby hml hZ hown hnm hret hlk X0 e0
  have N0 := Fr.nil n0
  refine go_cast (g' := mkF m 0 #[.val (.ref a1), .val (.int (0 : Int32)), .val (.int (4 : Int32)), .unset, .unset, .unset] []) ?_ (by first | (simp [entryFrame, mkF, argsToLocals, Value.category]; done) | rfl)
  refine go_iload_n (q := 1) X0 hx (hb hby d5_0) (v := (4 : Int32)) rfl rfl ?_
  refine go_newP (q := 3) (ty := .byte) (cap := 4) (vs := [(.int (0 : Int32)), (.int (0 : Int32)), (.int (0 : Int32)), (.int (0 : Int32))]) (dv := (.int (0 : Int32))) X0 hx hZ rfl (w24 hw) e0 (hb hby d5_1) (by decide) (by decide) (by decide) (by decide) (by decide) rfl rfl rfl ?_
  intro T1 h1 ob1 k1 g1 X1 e1 E1 A1
  have fr1 : n0 ≤ ob1 := own_ge O0 g1
  have sn1 : h0.size ≤ ob1 := g1 ▸ (Nat.le_refl _)
  have ne_a1_ob1 : a1 ≠ ob1 := own_lt g1 A_0.lt
  refine go_astore_n (q := 4) X1 hx (hb hby d5_3) rfl (l' := #[.val (.ref a1), .val (.int (0 : Int32)), .val (.int (4 : Int32)), .val (.ref ob1), .unset, .unset]) rfl rfl ?_
  refine go_aload_n (q := 5) X1 hx (hb hby d5_4) (v := (.ref a1)) rfl rfl rfl ?_
  refine go_iload_n (q := 6) X1 hx (hb hby d5_5) (v := (0 : Int32)) rfl rfl ?_
  refine go_aload_n (q := 7) X1 hx (hb hby d5_6) (v := (.ref ob1)) rfl rfl rfl ?_
  refine go_iconst (q := 8) X1 hx (hb hby d5_7) (v := (0 : Int32)) (by decide) rfl ?_
  refine go_iload_n (q := 9) X1 hx (hb hby d5_8) (v := (4 : Int32)) rfl rfl ?_
  have f2 : Arv Z h1 a1 kc .char (4 : Int32) [(.int x0), (.int x1), (.int x2), (.int x3)] dc := (A_0.ext E1)
  have O3 : Old Z n0 h1 := (O0.ext E1)
  refine go_static (q := 12) X1 hx hZ hown (y := (⟨"java/lang/StringUTF16", "compress", "([CI[BII)I"⟩ : MethodName)) (w25 hw) (w26 hw) (w22 hw) (w27 hw) (by decide) e1 (b6_2 l Z a0 hw a1 kc dc ob1 k1 x0 x1 x2 x3 h1 n0 O3 f2 A1 ne_a1_ob1 fr1 hr_4 hr_5) (argsL := [(.ref a1), (.int (0 : Int32)), (.ref ob1), (.int (0 : Int32)), (.int (4 : Int32))]) (rest := []) rfl (lenOf pd_3 rfl) rfl (by rw [hml]; rfl) (W := 0) (Nat.le_of_eq rfl) (hb hby d5_9) (by decide) (by decide) (by decide) (by decide) rfl ?_
  rintro T4 h4 _ L4 X4 e4 ⟨rfl, M4, K4⟩
  have N4 := Fr.app N0 M4
  refine go_istore (q := 14) X4 hx (hb hby d5_12) (l' := #[.val (.ref a1), .val (.int (0 : Int32)), .val (.int (4 : Int32)), .val (.ref ob1), .val (.int (1 : Int32)), .unset]) rfl rfl ?_
  refine go_iload (q := 16) X4 hx (hb hby d5_14) (v := (1 : Int32)) rfl rfl ?_
  refine go_iload_n (q := 17) X4 hx (hb hby d5_16) (v := (4 : Int32)) rfl rfl ?_
  refine go_icmpN (q := 20) X4 hx (hb hby d5_17) (XT.ii_eq_f (by decide)) rfl ?_
  refine go_aload_n (q := 21) X4 hx (hb hby d5_20) (v := (.ref a1)) rfl rfl rfl ?_
  refine go_iload_n (q := 22) X4 hx (hb hby d5_21) (v := (0 : Int32)) rfl rfl ?_
  refine go_iload_n (q := 23) X4 hx (hb hby d5_22) (v := (4 : Int32)) rfl rfl ?_
  have f5 : Arv Z h4 a1 kc .char (4 : Int32) [(.int x0), (.int x1), (.int x2), (.int x3)] dc := (f2.keep K4 (ninS ne_a1_ob1 nin0))
  have O6 : Old Z n0 h4 := (O3.keep K4 (allS fr1 all0))
  refine go_static (q := 26) X4 hx hZ hown (y := (⟨"java/lang/StringUTF16", "toBytes", "([CII)[B"⟩ : MethodName)) (w39 hw) (w40 hw) (w22 hw) (w41 hw) (by decide) e4 (b9 l Z a0 hw a1 kc dc x0 x1 x2 x3 h4 n0 O6 f5 S_1 S_2 S_3) (argsL := [(.ref a1), (.int (0 : Int32)), (.int (4 : Int32))]) (rest := []) rfl (lenOf pd_4 rfl) rfl (by rw [hml]; rfl) (W := 0) (Nat.le_of_eq rfl) (hb hby d5_23) (by decide) (by decide) (by decide) (by decide) rfl ?_
  rintro T7 h7 _ L7 X7 e7 ⟨r_7, kb_7, rfl, M7, K7, p7_0, p7_1⟩
  have N7 := Fr.app N4 M7
  have fr_r_7 : n0 ≤ r_7 := Nat.le_trans (own_le O6) p7_0
  have sn_r_7 : h0.size ≤ r_7 := Nat.le_trans (Nat.le_trans (Nat.le_trans (Nat.le_refl _) E1.1) K4.1) p7_0
  have ne_a1_r_7 : a1 ≠ r_7 := own_ltg p7_0 f5.lt
  refine go_astore (q := 28) X7 hx (hb hby d5_26) rfl (l' := #[.val (.ref a1), .val (.int (0 : Int32)), .val (.int (4 : Int32)), .val (.ref ob1), .val (.int (1 : Int32)), .val (.ref r_7)]) rfl rfl ?_
  refine go_aload (q := 30) X7 hx (hb hby d5_28) (v := (.ref r_7)) rfl rfl rfl ?_
  refine go_iload (q := 32) X7 hx (hb hby d5_30) (v := (1 : Int32)) rfl rfl ?_
  have O8 : Old Z n0 h7 := (O6.keep K7 all0)
  refine go_static (q := 35) X7 hx hZ hown (y := (⟨"java/lang/StringUTF16", "getChar", "([BI)C"⟩ : MethodName)) (w55 hw) (w56 hw) (w22 hw) (w57 hw) (by decide) e7 (b13_1 l Z a0 hw r_7 kb_7 x0 x1 x2 x3 h7 n0 O8 p7_1 S_1 S_2 S_3 hr_7) (argsL := [(.ref r_7), (.int (1 : Int32))]) (rest := []) rfl (lenOf pd_5 rfl) rfl (by rw [hml]; rfl) (W := 0) (Nat.le_of_eq rfl) (hb hby d5_32) (by decide) (by decide) (by decide) (by decide) rfl ?_
  rintro T9 h9 _ L9 X9 e9 ⟨rfl, M9, K9⟩
  have N9 := Fr.app N7 M9
  refine go_sipush (q := 38) X9 hx (hb hby d5_35) (v := (255 : Int32)) (by decide) rfl ?_
  refine go_icmpY (q := 54) X9 hx (hb hby d5_38) (XT.ii_gt_t hr_5) (by decide) (by decide) ?_
  refine go_aload (q := 56) X9 hx (hb hby d5_54) (v := (.ref r_7)) rfl rfl rfl ?_
  have f10 : Arv Z h9 r_7 kb_7 .byte (8 : Int32) [(.int x0.toInt8.toInt32), (.int (x0 >>> ((8 : Int32) &&& 31)).toInt8.toInt32), (.int x1.toInt8.toInt32), (.int (x1 >>> ((8 : Int32) &&& 31)).toInt8.toInt32), (.int x2.toInt8.toInt32), (.int (x2 >>> ((8 : Int32) &&& 31)).toInt8.toInt32), (.int x3.toInt8.toInt32), (.int (x3 >>> ((8 : Int32) &&& 31)).toInt8.toInt32)] (.int (0 : Int32)) := (p7_1.keep K9 nin0)
  refine go_retA X9 hx hret hlk e9 (hb hby d5_56) rfl rfl rfl (by decide) (by decide) ?_
  exact ⟨r_7, kb_7, rfl, N9, (((((Keep.refl h0 []).ext E1).trans K4 (allS (P := fun x => x ∈ [] ∨ h0.size ≤ x) (Or.inr sn1) all0)).trans K7 all0).trans K9 all0), sn_r_7, f10⟩
set_option maxRecDepth 65536 in
set_option maxHeartbeats 40000000 in
theorem b5_3 (l : Launch) (Z : State) (a0 : Array Value) (hw : ∀ d ∈ tables_1, d.before a0 Z = true) (a1 : Addr) (kc : ClassId) (dc : Value) (x0 : Int32) (x1 : Int32) (x2 : Int32) (x3 : Int32) (h0 : Heap) (n0 : Nat) (O0 : Old Z n0 h0) (A_0 : Arv Z h0 a1 kc .char (4 : Int32) [(.int x0), (.int x1), (.int x2), (.int x3)] dc) (S_1 : Sta Z Z.heap "java/lang/StringUTF16" "$assertionsDisabled" "Z" (.int (1 : Int32))) (S_2 : Sta Z Z.heap "java/lang/StringUTF16" "HI_BYTE_SHIFT" "I" (.int (0 : Int32))) (S_3 : Sta Z Z.heap "java/lang/StringUTF16" "LO_BYTE_SHIFT" "I" (.int (8 : Int32))) (hr_4 : (¬ (255 : Int32) < x0)) (hr_5 : (¬ (255 : Int32) < x1)) (hr_6 : ((255 : Int32) < x2)) (hr_7 : (0 ≤ x0.toInt ∧ x0.toInt ≤ 65535)) (hr_8 : (0 ≤ x1.toInt ∧ x1.toInt ≤ 65535)) (hr_9 : (0 ≤ x2.toInt ∧ x2.toInt ≤ 65535)) (hr_10 : (0 ≤ x3.toInt ∧ x3.toInt ≤ 65535)) :
    Con l Z (⟨"java/lang/StringUTF16", "compress", "([CII)[B"⟩ : MethodName) jdk_52_method_16_code 6 (some (.array .byte)) ({ frames := 3, cells := 2, slots := 12, locals := 40 } : Room) #[(.ref a1), (.int (0 : Int32)), (.int (4 : Int32))] h0 (fun v h L => ∃ (r : Addr) (kb : ClassId), v = some (.ref r) ∧ Fr n0 L ∧ Keep h0 h [] ∧ h0.size ≤ r ∧ Arv Z h r kb .byte (8 : Int32) [(.int x0.toInt8.toInt32), (.int (x0 >>> ((8 : Int32) &&& 31)).toInt8.toInt32), (.int x1.toInt8.toInt32), (.int (x1 >>> ((8 : Int32) &&& 31)).toInt8.toInt32), (.int x2.toInt8.toInt32), (.int (x2 >>> ((8 : Int32) &&& 31)).toInt8.toInt32), (.int x3.toInt8.toInt32), (.int (x3 >>> ((8 : Int32) &&& 31)).toInt8.toInt32)] (.int (0 : Int32))) := by
  refine Con.of (plainFor_of_name pn_0) ?_
  intro p e s m below meth c s₁ hx hby hml hZ hown hnm hret hlk X0 e0
  have N0 := Fr.nil n0
  refine go_cast (g' := mkF m 0 #[.val (.ref a1), .val (.int (0 : Int32)), .val (.int (4 : Int32)), .unset, .unset, .unset] []) ?_ (by first | (simp [entryFrame, mkF, argsToLocals, Value.category]; done) | rfl)
  refine go_iload_n (q := 1) X0 hx (hb hby d5_0) (v := (4 : Int32)) rfl rfl ?_
  refine go_newP (q := 3) (ty := .byte) (cap := 4) (vs := [(.int (0 : Int32)), (.int (0 : Int32)), (.int (0 : Int32)), (.int (0 : Int32))]) (dv := (.int (0 : Int32))) X0 hx hZ rfl (w24 hw) e0 (hb hby d5_1) (by decide) (by decide) (by decide) (by decide) (by decide) rfl rfl rfl ?_
  intro T1 h1 ob1 k1 g1 X1 e1 E1 A1
  have fr1 : n0 ≤ ob1 := own_ge O0 g1
  have sn1 : h0.size ≤ ob1 := g1 ▸ (Nat.le_refl _)
  have ne_a1_ob1 : a1 ≠ ob1 := own_lt g1 A_0.lt
  refine go_astore_n (q := 4) X1 hx (hb hby d5_3) rfl (l' := #[.val (.ref a1), .val (.int (0 : Int32)), .val (.int (4 : Int32)), .val (.ref ob1), .unset, .unset]) rfl rfl ?_
  refine go_aload_n (q := 5) X1 hx (hb hby d5_4) (v := (.ref a1)) rfl rfl rfl ?_
  refine go_iload_n (q := 6) X1 hx (hb hby d5_5) (v := (0 : Int32)) rfl rfl ?_
  refine go_aload_n (q := 7) X1 hx (hb hby d5_6) (v := (.ref ob1)) rfl rfl rfl ?_
  refine go_iconst (q := 8) X1 hx (hb hby d5_7) (v := (0 : Int32)) (by decide) rfl ?_
  refine go_iload_n (q := 9) X1 hx (hb hby d5_8) (v := (4 : Int32)) rfl rfl ?_
  have f2 : Arv Z h1 a1 kc .char (4 : Int32) [(.int x0), (.int x1), (.int x2), (.int x3)] dc := (A_0.ext E1)
  have O3 : Old Z n0 h1 := (O0.ext E1)
  refine go_static (q := 12) X1 hx hZ hown (y := (⟨"java/lang/StringUTF16", "compress", "([CI[BII)I"⟩ : MethodName)) (w25 hw) (w26 hw) (w22 hw) (w27 hw) (by decide) e1 (b6_3 l Z a0 hw a1 kc dc ob1 k1 x0 x1 x2 x3 h1 n0 O3 f2 A1 ne_a1_ob1 fr1 hr_4 hr_5 hr_6) (argsL := [(.ref a1), (.int (0 : Int32)), (.ref ob1), (.int (0 : Int32)), (.int (4 : Int32))]) (rest := []) rfl (lenOf pd_3 rfl) rfl (by rw [hml]; rfl) (W := 0) (Nat.le_of_eq rfl) (hb hby d5_9) (by decide) (by decide) (by decide) (by decide) rfl ?_
  rintro T4 h4 _ L4 X4 e4 ⟨rfl, M4, K4⟩
  have N4 := Fr.app N0 M4
  refine go_istore (q := 14) X4 hx (hb hby d5_12) (l' := #[.val (.ref a1), .val (.int (0 : Int32)), .val (.int (4 : Int32)), .val (.ref ob1), .val (.int (2 : Int32)), .unset]) rfl rfl ?_
  refine go_iload (q := 16) X4 hx (hb hby d5_14) (v := (2 : Int32)) rfl rfl ?_
  refine go_iload_n (q := 17) X4 hx (hb hby d5_16) (v := (4 : Int32)) rfl rfl ?_
  refine go_icmpN (q := 20) X4 hx (hb hby d5_17) (XT.ii_eq_f (by decide)) rfl ?_
  refine go_aload_n (q := 21) X4 hx (hb hby d5_20) (v := (.ref a1)) rfl rfl rfl ?_
  refine go_iload_n (q := 22) X4 hx (hb hby d5_21) (v := (0 : Int32)) rfl rfl ?_
  refine go_iload_n (q := 23) X4 hx (hb hby d5_22) (v := (4 : Int32)) rfl rfl ?_
  have f5 : Arv Z h4 a1 kc .char (4 : Int32) [(.int x0), (.int x1), (.int x2), (.int x3)] dc := (f2.keep K4 (ninS ne_a1_ob1 nin0))
  have O6 : Old Z n0 h4 := (O3.keep K4 (allS fr1 all0))
  refine go_static (q := 26) X4 hx hZ hown (y := (⟨"java/lang/StringUTF16", "toBytes", "([CII)[B"⟩ : MethodName)) (w39 hw) (w40 hw) (w22 hw) (w41 hw) (by decide) e4 (b9 l Z a0 hw a1 kc dc x0 x1 x2 x3 h4 n0 O6 f5 S_1 S_2 S_3) (argsL := [(.ref a1), (.int (0 : Int32)), (.int (4 : Int32))]) (rest := []) rfl (lenOf pd_4 rfl) rfl (by rw [hml]; rfl) (W := 0) (Nat.le_of_eq rfl) (hb hby d5_23) (by decide) (by decide) (by decide) (by decide) rfl ?_
  rintro T7 h7 _ L7 X7 e7 ⟨r_7, kb_7, rfl, M7, K7, p7_0, p7_1⟩
  have N7 := Fr.app N4 M7
  have fr_r_7 : n0 ≤ r_7 := Nat.le_trans (own_le O6) p7_0
  have sn_r_7 : h0.size ≤ r_7 := Nat.le_trans (Nat.le_trans (Nat.le_trans (Nat.le_refl _) E1.1) K4.1) p7_0
  have ne_a1_r_7 : a1 ≠ r_7 := own_ltg p7_0 f5.lt
  refine go_astore (q := 28) X7 hx (hb hby d5_26) rfl (l' := #[.val (.ref a1), .val (.int (0 : Int32)), .val (.int (4 : Int32)), .val (.ref ob1), .val (.int (2 : Int32)), .val (.ref r_7)]) rfl rfl ?_
  refine go_aload (q := 30) X7 hx (hb hby d5_28) (v := (.ref r_7)) rfl rfl rfl ?_
  refine go_iload (q := 32) X7 hx (hb hby d5_30) (v := (2 : Int32)) rfl rfl ?_
  have O8 : Old Z n0 h7 := (O6.keep K7 all0)
  refine go_static (q := 35) X7 hx hZ hown (y := (⟨"java/lang/StringUTF16", "getChar", "([BI)C"⟩ : MethodName)) (w55 hw) (w56 hw) (w22 hw) (w57 hw) (by decide) e7 (b13_2 l Z a0 hw r_7 kb_7 x0 x1 x2 x3 h7 n0 O8 p7_1 S_1 S_2 S_3 hr_9) (argsL := [(.ref r_7), (.int (2 : Int32))]) (rest := []) rfl (lenOf pd_5 rfl) rfl (by rw [hml]; rfl) (W := 0) (Nat.le_of_eq rfl) (hb hby d5_32) (by decide) (by decide) (by decide) (by decide) rfl ?_
  rintro T9 h9 _ L9 X9 e9 ⟨rfl, M9, K9⟩
  have N9 := Fr.app N7 M9
  refine go_sipush (q := 38) X9 hx (hb hby d5_35) (v := (255 : Int32)) (by decide) rfl ?_
  refine go_icmpY (q := 54) X9 hx (hb hby d5_38) (XT.ii_gt_t hr_6) (by decide) (by decide) ?_
  refine go_aload (q := 56) X9 hx (hb hby d5_54) (v := (.ref r_7)) rfl rfl rfl ?_
  have f10 : Arv Z h9 r_7 kb_7 .byte (8 : Int32) [(.int x0.toInt8.toInt32), (.int (x0 >>> ((8 : Int32) &&& 31)).toInt8.toInt32), (.int x1.toInt8.toInt32), (.int (x1 >>> ((8 : Int32) &&& 31)).toInt8.toInt32), (.int x2.toInt8.toInt32), (.int (x2 >>> ((8 : Int32) &&& 31)).toInt8.toInt32), (.int x3.toInt8.toInt32), (.int (x3 >>> ((8 : Int32) &&& 31)).toInt8.toInt32)] (.int (0 : Int32)) := (p7_1.keep K9 nin0)
  refine go_retA X9 hx hret hlk e9 (hb hby d5_56) rfl rfl rfl (by decide) (by decide) ?_
  exact ⟨r_7, kb_7, rfl, N9, (((((Keep.refl h0 []).ext E1).trans K4 (allS (P := fun x => x ∈ [] ∨ h0.size ≤ x) (Or.inr sn1) all0)).trans K7 all0).trans K9 all0), sn_r_7, f10⟩
set_option maxRecDepth 65536 in
set_option maxHeartbeats 40000000 in
theorem b5_4 (l : Launch) (Z : State) (a0 : Array Value) (hw : ∀ d ∈ tables_1, d.before a0 Z = true) (a1 : Addr) (kc : ClassId) (dc : Value) (x0 : Int32) (x1 : Int32) (x2 : Int32) (x3 : Int32) (h0 : Heap) (n0 : Nat) (O0 : Old Z n0 h0) (A_0 : Arv Z h0 a1 kc .char (4 : Int32) [(.int x0), (.int x1), (.int x2), (.int x3)] dc) (S_1 : Sta Z Z.heap "java/lang/StringUTF16" "$assertionsDisabled" "Z" (.int (1 : Int32))) (S_2 : Sta Z Z.heap "java/lang/StringUTF16" "HI_BYTE_SHIFT" "I" (.int (0 : Int32))) (S_3 : Sta Z Z.heap "java/lang/StringUTF16" "LO_BYTE_SHIFT" "I" (.int (8 : Int32))) (hr_4 : (¬ (255 : Int32) < x0)) (hr_5 : (¬ (255 : Int32) < x1)) (hr_6 : (¬ (255 : Int32) < x2)) (hr_7 : ((255 : Int32) < x3)) (hr_8 : (0 ≤ x0.toInt ∧ x0.toInt ≤ 65535)) (hr_9 : (0 ≤ x1.toInt ∧ x1.toInt ≤ 65535)) (hr_10 : (0 ≤ x2.toInt ∧ x2.toInt ≤ 65535)) (hr_11 : (0 ≤ x3.toInt ∧ x3.toInt ≤ 65535)) :
    Con l Z (⟨"java/lang/StringUTF16", "compress", "([CII)[B"⟩ : MethodName) jdk_52_method_16_code 6 (some (.array .byte)) ({ frames := 3, cells := 2, slots := 12, locals := 40 } : Room) #[(.ref a1), (.int (0 : Int32)), (.int (4 : Int32))] h0 (fun v h L => ∃ (r : Addr) (kb : ClassId), v = some (.ref r) ∧ Fr n0 L ∧ Keep h0 h [] ∧ h0.size ≤ r ∧ Arv Z h r kb .byte (8 : Int32) [(.int x0.toInt8.toInt32), (.int (x0 >>> ((8 : Int32) &&& 31)).toInt8.toInt32), (.int x1.toInt8.toInt32), (.int (x1 >>> ((8 : Int32) &&& 31)).toInt8.toInt32), (.int x2.toInt8.toInt32), (.int (x2 >>> ((8 : Int32) &&& 31)).toInt8.toInt32), (.int x3.toInt8.toInt32), (.int (x3 >>> ((8 : Int32) &&& 31)).toInt8.toInt32)] (.int (0 : Int32))) := by
  refine Con.of (plainFor_of_name pn_0) ?_
  intro p e s m below meth c s₁ hx hby hml hZ hown hnm hret hlk X0 e0
  have N0 := Fr.nil n0
  refine go_cast (g' := mkF m 0 #[.val (.ref a1), .val (.int (0 : Int32)), .val (.int (4 : Int32)), .unset, .unset, .unset] []) ?_ (by first | (simp [entryFrame, mkF, argsToLocals, Value.category]; done) | rfl)
  refine go_iload_n (q := 1) X0 hx (hb hby d5_0) (v := (4 : Int32)) rfl rfl ?_
  refine go_newP (q := 3) (ty := .byte) (cap := 4) (vs := [(.int (0 : Int32)), (.int (0 : Int32)), (.int (0 : Int32)), (.int (0 : Int32))]) (dv := (.int (0 : Int32))) X0 hx hZ rfl (w24 hw) e0 (hb hby d5_1) (by decide) (by decide) (by decide) (by decide) (by decide) rfl rfl rfl ?_
  intro T1 h1 ob1 k1 g1 X1 e1 E1 A1
  have fr1 : n0 ≤ ob1 := own_ge O0 g1
  have sn1 : h0.size ≤ ob1 := g1 ▸ (Nat.le_refl _)
  have ne_a1_ob1 : a1 ≠ ob1 := own_lt g1 A_0.lt
  refine go_astore_n (q := 4) X1 hx (hb hby d5_3) rfl (l' := #[.val (.ref a1), .val (.int (0 : Int32)), .val (.int (4 : Int32)), .val (.ref ob1), .unset, .unset]) rfl rfl ?_
  refine go_aload_n (q := 5) X1 hx (hb hby d5_4) (v := (.ref a1)) rfl rfl rfl ?_
  refine go_iload_n (q := 6) X1 hx (hb hby d5_5) (v := (0 : Int32)) rfl rfl ?_
  refine go_aload_n (q := 7) X1 hx (hb hby d5_6) (v := (.ref ob1)) rfl rfl rfl ?_
  refine go_iconst (q := 8) X1 hx (hb hby d5_7) (v := (0 : Int32)) (by decide) rfl ?_
  refine go_iload_n (q := 9) X1 hx (hb hby d5_8) (v := (4 : Int32)) rfl rfl ?_
  have f2 : Arv Z h1 a1 kc .char (4 : Int32) [(.int x0), (.int x1), (.int x2), (.int x3)] dc := (A_0.ext E1)
  have O3 : Old Z n0 h1 := (O0.ext E1)
  refine go_static (q := 12) X1 hx hZ hown (y := (⟨"java/lang/StringUTF16", "compress", "([CI[BII)I"⟩ : MethodName)) (w25 hw) (w26 hw) (w22 hw) (w27 hw) (by decide) e1 (b6_4 l Z a0 hw a1 kc dc ob1 k1 x0 x1 x2 x3 h1 n0 O3 f2 A1 ne_a1_ob1 fr1 hr_4 hr_5 hr_6 hr_7) (argsL := [(.ref a1), (.int (0 : Int32)), (.ref ob1), (.int (0 : Int32)), (.int (4 : Int32))]) (rest := []) rfl (lenOf pd_3 rfl) rfl (by rw [hml]; rfl) (W := 0) (Nat.le_of_eq rfl) (hb hby d5_9) (by decide) (by decide) (by decide) (by decide) rfl ?_
  rintro T4 h4 _ L4 X4 e4 ⟨rfl, M4, K4⟩
  have N4 := Fr.app N0 M4
  refine go_istore (q := 14) X4 hx (hb hby d5_12) (l' := #[.val (.ref a1), .val (.int (0 : Int32)), .val (.int (4 : Int32)), .val (.ref ob1), .val (.int (3 : Int32)), .unset]) rfl rfl ?_
  refine go_iload (q := 16) X4 hx (hb hby d5_14) (v := (3 : Int32)) rfl rfl ?_
  refine go_iload_n (q := 17) X4 hx (hb hby d5_16) (v := (4 : Int32)) rfl rfl ?_
  refine go_icmpN (q := 20) X4 hx (hb hby d5_17) (XT.ii_eq_f (by decide)) rfl ?_
  refine go_aload_n (q := 21) X4 hx (hb hby d5_20) (v := (.ref a1)) rfl rfl rfl ?_
  refine go_iload_n (q := 22) X4 hx (hb hby d5_21) (v := (0 : Int32)) rfl rfl ?_
  refine go_iload_n (q := 23) X4 hx (hb hby d5_22) (v := (4 : Int32)) rfl rfl ?_
  have f5 : Arv Z h4 a1 kc .char (4 : Int32) [(.int x0), (.int x1), (.int x2), (.int x3)] dc := (f2.keep K4 (ninS ne_a1_ob1 nin0))
  have O6 : Old Z n0 h4 := (O3.keep K4 (allS fr1 all0))
  refine go_static (q := 26) X4 hx hZ hown (y := (⟨"java/lang/StringUTF16", "toBytes", "([CII)[B"⟩ : MethodName)) (w39 hw) (w40 hw) (w22 hw) (w41 hw) (by decide) e4 (b9 l Z a0 hw a1 kc dc x0 x1 x2 x3 h4 n0 O6 f5 S_1 S_2 S_3) (argsL := [(.ref a1), (.int (0 : Int32)), (.int (4 : Int32))]) (rest := []) rfl (lenOf pd_4 rfl) rfl (by rw [hml]; rfl) (W := 0) (Nat.le_of_eq rfl) (hb hby d5_23) (by decide) (by decide) (by decide) (by decide) rfl ?_
  rintro T7 h7 _ L7 X7 e7 ⟨r_7, kb_7, rfl, M7, K7, p7_0, p7_1⟩
  have N7 := Fr.app N4 M7
  have fr_r_7 : n0 ≤ r_7 := Nat.le_trans (own_le O6) p7_0
  have sn_r_7 : h0.size ≤ r_7 := Nat.le_trans (Nat.le_trans (Nat.le_trans (Nat.le_refl _) E1.1) K4.1) p7_0
  have ne_a1_r_7 : a1 ≠ r_7 := own_ltg p7_0 f5.lt
  refine go_astore (q := 28) X7 hx (hb hby d5_26) rfl (l' := #[.val (.ref a1), .val (.int (0 : Int32)), .val (.int (4 : Int32)), .val (.ref ob1), .val (.int (3 : Int32)), .val (.ref r_7)]) rfl rfl ?_
  refine go_aload (q := 30) X7 hx (hb hby d5_28) (v := (.ref r_7)) rfl rfl rfl ?_
  refine go_iload (q := 32) X7 hx (hb hby d5_30) (v := (3 : Int32)) rfl rfl ?_
  have O8 : Old Z n0 h7 := (O6.keep K7 all0)
  refine go_static (q := 35) X7 hx hZ hown (y := (⟨"java/lang/StringUTF16", "getChar", "([BI)C"⟩ : MethodName)) (w55 hw) (w56 hw) (w22 hw) (w57 hw) (by decide) e7 (b13_3 l Z a0 hw r_7 kb_7 x0 x1 x2 x3 h7 n0 O8 p7_1 S_1 S_2 S_3 hr_11) (argsL := [(.ref r_7), (.int (3 : Int32))]) (rest := []) rfl (lenOf pd_5 rfl) rfl (by rw [hml]; rfl) (W := 0) (Nat.le_of_eq rfl) (hb hby d5_32) (by decide) (by decide) (by decide) (by decide) rfl ?_
  rintro T9 h9 _ L9 X9 e9 ⟨rfl, M9, K9⟩
  have N9 := Fr.app N7 M9
  refine go_sipush (q := 38) X9 hx (hb hby d5_35) (v := (255 : Int32)) (by decide) rfl ?_
  refine go_icmpY (q := 54) X9 hx (hb hby d5_38) (XT.ii_gt_t hr_7) (by decide) (by decide) ?_
  refine go_aload (q := 56) X9 hx (hb hby d5_54) (v := (.ref r_7)) rfl rfl rfl ?_
  have f10 : Arv Z h9 r_7 kb_7 .byte (8 : Int32) [(.int x0.toInt8.toInt32), (.int (x0 >>> ((8 : Int32) &&& 31)).toInt8.toInt32), (.int x1.toInt8.toInt32), (.int (x1 >>> ((8 : Int32) &&& 31)).toInt8.toInt32), (.int x2.toInt8.toInt32), (.int (x2 >>> ((8 : Int32) &&& 31)).toInt8.toInt32), (.int x3.toInt8.toInt32), (.int (x3 >>> ((8 : Int32) &&& 31)).toInt8.toInt32)] (.int (0 : Int32)) := (p7_1.keep K9 nin0)
  refine go_retA X9 hx hret hlk e9 (hb hby d5_56) rfl rfl rfl (by decide) (by decide) ?_
  exact ⟨r_7, kb_7, rfl, N9, (((((Keep.refl h0 []).ext E1).trans K4 (allS (P := fun x => x ∈ [] ∨ h0.size ≤ x) (Or.inr sn1) all0)).trans K7 all0).trans K9 all0), sn_r_7, f10⟩
set_option maxRecDepth 65536 in
set_option maxHeartbeats 40000000 in
theorem b7 (l : Launch) (Z : State) (a0 : Array Value) (hw : ∀ d ∈ tables_1, d.before a0 Z = true) (a1 : Addr) (kb : ClassId) (vs : List Value) (h0 : Heap) (n0 : Nat) (O0 : Old Z n0 h0) (A_0 : Arv Z h0 a1 kb .byte (4 : Int32) vs (.int (0 : Int32))) :
    Con l Z (⟨"java/lang/StringUTF16", "coderFromArrayLen", "([BI)B"⟩ : MethodName) jdk_52_method_15_code 2 (some .byte) ({ frames := 0, cells := 0, slots := 0, locals := 0 } : Room) #[(.ref a1), (.int (4 : Int32))] h0 (fun v h L => v = some (.int (0 : Int32)) ∧ Fr n0 L ∧ Keep h0 h []) := by
  refine Con.of (plainFor_of_name pn_0) ?_
  intro p e s m below meth c s₁ hx hby hml hZ hown hnm hret hlk X0 e0
  have N0 := Fr.nil n0
  refine go_cast (g' := mkF m 0 #[.val (.ref a1), .val (.int (4 : Int32))] []) ?_ (by first | (simp [entryFrame, mkF, argsToLocals, Value.category]; done) | rfl)
  refine go_iload_n (q := 1) X0 hx (hb hby d7_0) (v := (4 : Int32)) rfl rfl ?_
  refine go_aload_n (q := 2) X0 hx (hb hby d7_1) (v := (.ref a1)) rfl rfl rfl ?_
  refine go_alen (q := 3) X0 hx hZ e0 A_0 (hb hby d7_2) rfl ?_
  refine go_isub (q := 4) X0 hx (hb hby d7_3) (v := (0 : Int32)) (by decide) rfl ?_
  refine go_bipush (q := 6) X0 hx (hb hby d7_4) (v := (31 : Int32)) (by decide) rfl ?_
  refine go_iushr (q := 7) X0 hx (hb hby d7_6) (v := (0 : Int32)) (by decide) rfl ?_
  refine go_i2b (q := 8) X0 hx (hb hby d7_7) (v := (0 : Int32)) (by decide) rfl ?_
  refine go_retI X0 hx hret hlk e0 (hb hby d7_8) (by simp) (by decide) (by decide) (by decide) ?_
  exact ⟨rfl, N0, (Keep.refl h0 [])⟩
set_option maxRecDepth 65536 in
set_option maxHeartbeats 40000000 in
theorem b7_1 (l : Launch) (Z : State) (a0 : Array Value) (hw : ∀ d ∈ tables_1, d.before a0 Z = true) (a1 : Addr) (kb : ClassId) (vs : List Value) (h0 : Heap) (n0 : Nat) (O0 : Old Z n0 h0) (A_0 : Arv Z h0 a1 kb .byte (8 : Int32) vs (.int (0 : Int32))) :
    Con l Z (⟨"java/lang/StringUTF16", "coderFromArrayLen", "([BI)B"⟩ : MethodName) jdk_52_method_15_code 2 (some .byte) ({ frames := 0, cells := 0, slots := 0, locals := 0 } : Room) #[(.ref a1), (.int (4 : Int32))] h0 (fun v h L => v = some (.int (1 : Int32)) ∧ Fr n0 L ∧ Keep h0 h []) := by
  refine Con.of (plainFor_of_name pn_0) ?_
  intro p e s m below meth c s₁ hx hby hml hZ hown hnm hret hlk X0 e0
  have N0 := Fr.nil n0
  refine go_cast (g' := mkF m 0 #[.val (.ref a1), .val (.int (4 : Int32))] []) ?_ (by first | (simp [entryFrame, mkF, argsToLocals, Value.category]; done) | rfl)
  refine go_iload_n (q := 1) X0 hx (hb hby d7_0) (v := (4 : Int32)) rfl rfl ?_
  refine go_aload_n (q := 2) X0 hx (hb hby d7_1) (v := (.ref a1)) rfl rfl rfl ?_
  refine go_alen (q := 3) X0 hx hZ e0 A_0 (hb hby d7_2) rfl ?_
  refine go_isub (q := 4) X0 hx (hb hby d7_3) (v := (-4 : Int32)) (by decide) rfl ?_
  refine go_bipush (q := 6) X0 hx (hb hby d7_4) (v := (31 : Int32)) (by decide) rfl ?_
  refine go_iushr (q := 7) X0 hx (hb hby d7_6) (v := (1 : Int32)) (by decide) rfl ?_
  refine go_i2b (q := 8) X0 hx (hb hby d7_7) (v := (1 : Int32)) (by decide) rfl ?_
  refine go_retI X0 hx hret hlk e0 (hb hby d7_8) (by simp) (by decide) (by decide) (by decide) ?_
  exact ⟨rfl, N0, (Keep.refl h0 [])⟩
set_option maxRecDepth 65536 in
set_option maxHeartbeats 40000000 in
theorem b3 (l : Launch) (Z : State) (a0 : Array Value) (hw : ∀ d ∈ tables_1, d.before a0 Z = true) (a1 : Addr) (a2 : Addr) (u1 : Value) (u2 : Value) (kc : ClassId) (dc : Value) (zc : Int32) (x0 : Int32) (x1 : Int32) (x2 : Int32) (x3 : Int32) (h0 : Heap) (n0 : Nat) (O0 : Old Z n0 h0) (E_0 : Exa Z h0 a1 "java/lang/String") (F_1 : Fld Z h0 a1 "java/lang/String" "value" "[B" u1) (F_2 : Fld Z h0 a1 "java/lang/String" "coder" "B" u2) (g_3 : n0 ≤ a1) (A_4 : Arv Z h0 a2 kc .char (4 : Int32) [(.int x0), (.int x1), (.int x2), (.int x3)] dc) (S_5 : Sta Z Z.heap "java/lang/String" "COMPACT_STRINGS" "Z" (.int zc)) (hr_6 : (¬ zc = 0)) (hr_7 : (¬ (255 : Int32) < x0)) (hr_8 : (¬ (255 : Int32) < x1)) (hr_9 : (¬ (255 : Int32) < x2)) (hr_10 : (¬ (255 : Int32) < x3)) :
    Con l Z (⟨"java/lang/String", "<init>", "([CIILjava/lang/Void;)V"⟩ : MethodName) jdk_42_method_149_code 6 none ({ frames := 2, cells := 1, slots := 4, locals := 35 } : Room) #[(.ref a1), (.ref a2), (.int (0 : Int32)), (.int (4 : Int32)), .null] h0 (fun v h L => ∃ (r : Addr) (kb : ClassId), v = none ∧ Fr n0 L ∧ Keep h0 h [a1] ∧ h0.size ≤ r ∧ Exa Z h a1 "java/lang/String" ∧ Fld Z h a1 "java/lang/String" "coder" "B" (.int (0 : Int32)) ∧ Fld Z h a1 "java/lang/String" "value" "[B" (.ref r) ∧ Arv Z h r kb .byte (4 : Int32) [(.int x0.toInt8.toInt32), (.int x1.toInt8.toInt32), (.int x2.toInt8.toInt32), (.int x3.toInt8.toInt32)] (.int (0 : Int32))) := by
  refine Con.of (plainFor_of_name pn_1) ?_
  intro p e s m below meth c s₁ hx hby hml hZ hown hnm hret hlk X0 e0
  have N0 := Fr.nil n0
  refine go_cast (g' := mkF m 0 #[.val (.ref a1), .val (.ref a2), .val (.int (0 : Int32)), .val (.int (4 : Int32)), .val .null, .unset] []) ?_ (by first | (simp [entryFrame, mkF, argsToLocals, Value.category]; done) | rfl)
  refine go_aload_n (q := 1) X0 hx (hb hby d3_0) (v := (.ref a1)) rfl rfl rfl ?_
  refine go_initO (q := 4) (W := 0) X0 hx hZ hown (w16 hw) (w17 hw) (w18 hw) e0 (by rw [hml]; rfl) (hb hby d3_1) (by decide) (Nat.le_of_eq rfl) (by decide) rfl ?_
  intro T1 X1 e1
  refine go_iload_n (q := 5) X1 hx (hb hby d3_4) (v := (4 : Int32)) rfl rfl ?_
  refine go_ifY (q := 27) X1 hx (hb hby d3_5) (XT.i0_ne_t (by decide)) (by decide) (by decide) ?_
  refine go_getS (q := 30) (host := "") X1 hx hZ hown (Or.inl (w19 hw)) Via.refl e1 (Sta.ext O0.2 S_5) (hb hby d3_27) rfl ?_
  intro T2 X2 e2
  refine go_ifN (q := 33) X2 hx (hb hby d3_30) (XT.i0_eq_f hr_6) rfl ?_
  refine go_aload_n (q := 34) X2 hx (hb hby d3_33) (v := (.ref a2)) rfl rfl rfl ?_
  refine go_iload_n (q := 35) X2 hx (hb hby d3_34) (v := (0 : Int32)) rfl rfl ?_
  refine go_iload_n (q := 36) X2 hx (hb hby d3_35) (v := (4 : Int32)) rfl rfl ?_
  refine go_static (q := 39) X2 hx hZ hown (y := (⟨"java/lang/StringUTF16", "compress", "([CII)[B"⟩ : MethodName)) (w20 hw) (w21 hw) (w22 hw) (w23 hw) (by decide) e2 (b5 l Z a0 hw a2 kc dc x0 x1 x2 x3 h0 n0 O0 A_4 hr_7 hr_8 hr_9 hr_10) (argsL := [(.ref a2), (.int (0 : Int32)), (.int (4 : Int32))]) (rest := []) rfl (lenOf pd_4 rfl) rfl (by rw [hml]; rfl) (W := 0) (Nat.le_of_eq rfl) (hb hby d3_36) (by decide) (by decide) (by decide) (by decide) rfl ?_
  rintro T3 h3 _ L3 X3 e3 ⟨r_3, kb_3, rfl, M3, K3, p3_0, p3_1⟩
  have N3 := Fr.app N0 M3
  have fr_r_3 : n0 ≤ r_3 := Nat.le_trans (own_le O0) p3_0
  have sn_r_3 : h0.size ≤ r_3 := Nat.le_trans (Nat.le_refl _) p3_0
  have ne_a1_r_3 : a1 ≠ r_3 := own_ltg p3_0 F_2.lt
  have ne_a2_r_3 : a2 ≠ r_3 := own_ltg p3_0 A_4.lt
  refine go_astore (q := 41) X3 hx (hb hby d3_39) rfl (l' := #[.val (.ref a1), .val (.ref a2), .val (.int (0 : Int32)), .val (.int (4 : Int32)), .val .null, .val (.ref r_3)]) rfl rfl ?_
  refine go_aload_n (q := 42) X3 hx (hb hby d3_41) (v := (.ref a1)) rfl rfl rfl ?_
  refine go_aload (q := 44) X3 hx (hb hby d3_42) (v := (.ref r_3)) rfl rfl rfl ?_
  refine go_iload_n (q := 45) X3 hx (hb hby d3_44) (v := (4 : Int32)) rfl rfl ?_
  have O4 : Old Z n0 h3 := (O0.keep K3 all0)
  refine go_static (q := 48) X3 hx hZ hown (y := (⟨"java/lang/StringUTF16", "coderFromArrayLen", "([BI)B"⟩ : MethodName)) (w28 hw) (w29 hw) (w22 hw) (w30 hw) (by decide) e3 (b7 l Z a0 hw r_3 kb_3 [(.int x0.toInt8.toInt32), (.int x1.toInt8.toInt32), (.int x2.toInt8.toInt32), (.int x3.toInt8.toInt32)] h3 n0 O4 p3_1) (argsL := [(.ref r_3), (.int (4 : Int32))]) (rest := [(.ref a1)]) rfl (lenOf pd_6 rfl) rfl (by rw [hml]; rfl) (W := 1) (Nat.le_of_eq rfl) (hb hby d3_45) (by decide) (by decide) (by decide) (by decide) rfl ?_
  rintro T5 h5 _ L5 X5 e5 ⟨rfl, M5, K5⟩
  have N5 := Fr.app N3 M5
  have f6 : Exa Z h5 a1 "java/lang/String" := ((E_0.keep K3).keep K5)
  have f7 : Fld Z h5 a1 "java/lang/String" "coder" "B" u2 := ((F_2.keep K3 nin0).keep K5 nin0)
  refine go_putF (q := 51) (host := "") X5 hx hZ hown (Or.inl (w31 hw)) Via.refl e5 f7 f6 (Or.inr ⟨(w32 hw), rfl, hnm⟩) (w7 hw) (ty := .byte) (by decide) (by decide) (by decide) (hb hby d3_48) rfl ?_
  intro T8 h8 X8 e8 W8
  have N8 := Fr.snoc X8 N5 g_3
  have F8 : Fld Z h8 a1 "java/lang/String" "coder" "B" (.int (0 : Int32)) := f7.same W8
  refine go_aload_n (q := 52) X8 hx (hb hby d3_51) (v := (.ref a1)) rfl rfl rfl ?_
  refine go_aload (q := 54) X8 hx (hb hby d3_52) (v := (.ref r_3)) rfl rfl rfl ?_
  have f9 : Exa Z h8 a1 "java/lang/String" := (f6.wr W8)
  have f10 : Fld Z h8 a1 "java/lang/String" "value" "[B" u1 := (((F_1.keep K3 nin0).keep K5 nin0).other W8 (Or.inr (slot_ne (Or.inr (w34 hw)) (Or.inr (w32 hw)) (by decide) (t := (.array .byte)) (t' := .byte) (by decide) (by decide))))
  refine go_putF (q := 57) (host := "") X8 hx hZ hown (Or.inl (w33 hw)) Via.refl e8 f10 f9 (Or.inr ⟨(w34 hw), rfl, hnm⟩) (w7 hw) (ty := (.array .byte)) (by decide) rfl rfl (hb hby d3_54) rfl ?_
  intro T11 h11 X11 e11 W11
  have N11 := Fr.snoc X11 N8 g_3
  have F11 : Fld Z h11 a1 "java/lang/String" "value" "[B" (.ref r_3) := f10.same W11
  have f12 : Exa Z h11 a1 "java/lang/String" := (f9.wr W11)
  have f13 : Fld Z h11 a1 "java/lang/String" "coder" "B" (.int (0 : Int32)) := (F8.other W11 (Or.inr (slot_ne (Or.inr (w32 hw)) (Or.inr (w34 hw)) (by decide) (t := .byte) (t' := (.array .byte)) (by decide) (by decide))))
  have f14 : Arv Z h11 r_3 kb_3 .byte (4 : Int32) [(.int x0.toInt8.toInt32), (.int x1.toInt8.toInt32), (.int x2.toInt8.toInt32), (.int x3.toInt8.toInt32)] (.int (0 : Int32)) := (((p3_1.keep K5 nin0).other W8 (Ne.symm ne_a1_r_3)).other W11 (Ne.symm ne_a1_r_3))
  refine go_ret0 X11 hx hret hlk e11 (hb hby d3_57) (by decide) (by decide) ?_
  exact ⟨r_3, kb_3, rfl, N11, (((((Keep.refl h0 [a1]).trans K3 all0).trans K5 all0).wr W8 (Or.inl (List.mem_of_getElem? (i := 0) rfl))).wr W11 (Or.inl (List.mem_of_getElem? (i := 0) rfl))), sn_r_3, f12, f13, F11, f14⟩
set_option maxRecDepth 65536 in
set_option maxHeartbeats 40000000 in
theorem b3_1 (l : Launch) (Z : State) (a0 : Array Value) (hw : ∀ d ∈ tables_1, d.before a0 Z = true) (a1 : Addr) (a2 : Addr) (u1 : Value) (u2 : Value) (kc : ClassId) (dc : Value) (zc : Int32) (x0 : Int32) (x1 : Int32) (x2 : Int32) (x3 : Int32) (h0 : Heap) (n0 : Nat) (O0 : Old Z n0 h0) (E_0 : Exa Z h0 a1 "java/lang/String") (F_1 : Fld Z h0 a1 "java/lang/String" "value" "[B" u1) (F_2 : Fld Z h0 a1 "java/lang/String" "coder" "B" u2) (g_3 : n0 ≤ a1) (A_4 : Arv Z h0 a2 kc .char (4 : Int32) [(.int x0), (.int x1), (.int x2), (.int x3)] dc) (S_5 : Sta Z Z.heap "java/lang/String" "COMPACT_STRINGS" "Z" (.int zc)) (hr_6 : (¬ zc = 0)) (S_7 : Sta Z Z.heap "java/lang/StringUTF16" "$assertionsDisabled" "Z" (.int (1 : Int32))) (S_8 : Sta Z Z.heap "java/lang/StringUTF16" "HI_BYTE_SHIFT" "I" (.int (0 : Int32))) (S_9 : Sta Z Z.heap "java/lang/StringUTF16" "LO_BYTE_SHIFT" "I" (.int (8 : Int32))) (hr_10 : ((255 : Int32) < x0)) (hr_11 : (0 ≤ x0.toInt ∧ x0.toInt ≤ 65535)) (hr_12 : (0 ≤ x1.toInt ∧ x1.toInt ≤ 65535)) (hr_13 : (0 ≤ x2.toInt ∧ x2.toInt ≤ 65535)) (hr_14 : (0 ≤ x3.toInt ∧ x3.toInt ≤ 65535)) :
    Con l Z (⟨"java/lang/String", "<init>", "([CIILjava/lang/Void;)V"⟩ : MethodName) jdk_42_method_149_code 6 none ({ frames := 4, cells := 2, slots := 12, locals := 57 } : Room) #[(.ref a1), (.ref a2), (.int (0 : Int32)), (.int (4 : Int32)), .null] h0 (fun v h L => ∃ (r : Addr) (kb : ClassId), v = none ∧ Fr n0 L ∧ Keep h0 h [a1] ∧ h0.size ≤ r ∧ Exa Z h a1 "java/lang/String" ∧ Fld Z h a1 "java/lang/String" "coder" "B" (.int (1 : Int32)) ∧ Fld Z h a1 "java/lang/String" "value" "[B" (.ref r) ∧ Arv Z h r kb .byte (8 : Int32) [(.int x0.toInt8.toInt32), (.int (x0 >>> ((8 : Int32) &&& 31)).toInt8.toInt32), (.int x1.toInt8.toInt32), (.int (x1 >>> ((8 : Int32) &&& 31)).toInt8.toInt32), (.int x2.toInt8.toInt32), (.int (x2 >>> ((8 : Int32) &&& 31)).toInt8.toInt32), (.int x3.toInt8.toInt32), (.int (x3 >>> ((8 : Int32) &&& 31)).toInt8.toInt32)] (.int (0 : Int32))) := by
  refine Con.of (plainFor_of_name pn_1) ?_
  intro p e s m below meth c s₁ hx hby hml hZ hown hnm hret hlk X0 e0
  have N0 := Fr.nil n0
  refine go_cast (g' := mkF m 0 #[.val (.ref a1), .val (.ref a2), .val (.int (0 : Int32)), .val (.int (4 : Int32)), .val .null, .unset] []) ?_ (by first | (simp [entryFrame, mkF, argsToLocals, Value.category]; done) | rfl)
  refine go_aload_n (q := 1) X0 hx (hb hby d3_0) (v := (.ref a1)) rfl rfl rfl ?_
  refine go_initO (q := 4) (W := 0) X0 hx hZ hown (w16 hw) (w17 hw) (w18 hw) e0 (by rw [hml]; rfl) (hb hby d3_1) (by decide) (Nat.le_of_eq rfl) (by decide) rfl ?_
  intro T1 X1 e1
  refine go_iload_n (q := 5) X1 hx (hb hby d3_4) (v := (4 : Int32)) rfl rfl ?_
  refine go_ifY (q := 27) X1 hx (hb hby d3_5) (XT.i0_ne_t (by decide)) (by decide) (by decide) ?_
  refine go_getS (q := 30) (host := "") X1 hx hZ hown (Or.inl (w19 hw)) Via.refl e1 (Sta.ext O0.2 S_5) (hb hby d3_27) rfl ?_
  intro T2 X2 e2
  refine go_ifN (q := 33) X2 hx (hb hby d3_30) (XT.i0_eq_f hr_6) rfl ?_
  refine go_aload_n (q := 34) X2 hx (hb hby d3_33) (v := (.ref a2)) rfl rfl rfl ?_
  refine go_iload_n (q := 35) X2 hx (hb hby d3_34) (v := (0 : Int32)) rfl rfl ?_
  refine go_iload_n (q := 36) X2 hx (hb hby d3_35) (v := (4 : Int32)) rfl rfl ?_
  refine go_static (q := 39) X2 hx hZ hown (y := (⟨"java/lang/StringUTF16", "compress", "([CII)[B"⟩ : MethodName)) (w20 hw) (w21 hw) (w22 hw) (w23 hw) (by decide) e2 (b5_1 l Z a0 hw a2 kc dc x0 x1 x2 x3 h0 n0 O0 A_4 S_7 S_8 S_9 hr_10 hr_11 hr_12 hr_13 hr_14) (argsL := [(.ref a2), (.int (0 : Int32)), (.int (4 : Int32))]) (rest := []) rfl (lenOf pd_4 rfl) rfl (by rw [hml]; rfl) (W := 0) (Nat.le_of_eq rfl) (hb hby d3_36) (by decide) (by decide) (by decide) (by decide) rfl ?_
  rintro T3 h3 _ L3 X3 e3 ⟨r_3, kb_3, rfl, M3, K3, p3_0, p3_1⟩
  have N3 := Fr.app N0 M3
  have fr_r_3 : n0 ≤ r_3 := Nat.le_trans (own_le O0) p3_0
  have sn_r_3 : h0.size ≤ r_3 := Nat.le_trans (Nat.le_refl _) p3_0
  have ne_a1_r_3 : a1 ≠ r_3 := own_ltg p3_0 F_2.lt
  have ne_a2_r_3 : a2 ≠ r_3 := own_ltg p3_0 A_4.lt
  refine go_astore (q := 41) X3 hx (hb hby d3_39) rfl (l' := #[.val (.ref a1), .val (.ref a2), .val (.int (0 : Int32)), .val (.int (4 : Int32)), .val .null, .val (.ref r_3)]) rfl rfl ?_
  refine go_aload_n (q := 42) X3 hx (hb hby d3_41) (v := (.ref a1)) rfl rfl rfl ?_
  refine go_aload (q := 44) X3 hx (hb hby d3_42) (v := (.ref r_3)) rfl rfl rfl ?_
  refine go_iload_n (q := 45) X3 hx (hb hby d3_44) (v := (4 : Int32)) rfl rfl ?_
  have O4 : Old Z n0 h3 := (O0.keep K3 all0)
  refine go_static (q := 48) X3 hx hZ hown (y := (⟨"java/lang/StringUTF16", "coderFromArrayLen", "([BI)B"⟩ : MethodName)) (w28 hw) (w29 hw) (w22 hw) (w30 hw) (by decide) e3 (b7_1 l Z a0 hw r_3 kb_3 [(.int x0.toInt8.toInt32), (.int (x0 >>> ((8 : Int32) &&& 31)).toInt8.toInt32), (.int x1.toInt8.toInt32), (.int (x1 >>> ((8 : Int32) &&& 31)).toInt8.toInt32), (.int x2.toInt8.toInt32), (.int (x2 >>> ((8 : Int32) &&& 31)).toInt8.toInt32), (.int x3.toInt8.toInt32), (.int (x3 >>> ((8 : Int32) &&& 31)).toInt8.toInt32)] h3 n0 O4 p3_1) (argsL := [(.ref r_3), (.int (4 : Int32))]) (rest := [(.ref a1)]) rfl (lenOf pd_6 rfl) rfl (by rw [hml]; rfl) (W := 1) (Nat.le_of_eq rfl) (hb hby d3_45) (by decide) (by decide) (by decide) (by decide) rfl ?_
  rintro T5 h5 _ L5 X5 e5 ⟨rfl, M5, K5⟩
  have N5 := Fr.app N3 M5
  have f6 : Exa Z h5 a1 "java/lang/String" := ((E_0.keep K3).keep K5)
  have f7 : Fld Z h5 a1 "java/lang/String" "coder" "B" u2 := ((F_2.keep K3 nin0).keep K5 nin0)
  refine go_putF (q := 51) (host := "") X5 hx hZ hown (Or.inl (w31 hw)) Via.refl e5 f7 f6 (Or.inr ⟨(w32 hw), rfl, hnm⟩) (w7 hw) (ty := .byte) (by decide) (by decide) (by decide) (hb hby d3_48) rfl ?_
  intro T8 h8 X8 e8 W8
  have N8 := Fr.snoc X8 N5 g_3
  have F8 : Fld Z h8 a1 "java/lang/String" "coder" "B" (.int (1 : Int32)) := f7.same W8
  refine go_aload_n (q := 52) X8 hx (hb hby d3_51) (v := (.ref a1)) rfl rfl rfl ?_
  refine go_aload (q := 54) X8 hx (hb hby d3_52) (v := (.ref r_3)) rfl rfl rfl ?_
  have f9 : Exa Z h8 a1 "java/lang/String" := (f6.wr W8)
  have f10 : Fld Z h8 a1 "java/lang/String" "value" "[B" u1 := (((F_1.keep K3 nin0).keep K5 nin0).other W8 (Or.inr (slot_ne (Or.inr (w34 hw)) (Or.inr (w32 hw)) (by decide) (t := (.array .byte)) (t' := .byte) (by decide) (by decide))))
  refine go_putF (q := 57) (host := "") X8 hx hZ hown (Or.inl (w33 hw)) Via.refl e8 f10 f9 (Or.inr ⟨(w34 hw), rfl, hnm⟩) (w7 hw) (ty := (.array .byte)) (by decide) rfl rfl (hb hby d3_54) rfl ?_
  intro T11 h11 X11 e11 W11
  have N11 := Fr.snoc X11 N8 g_3
  have F11 : Fld Z h11 a1 "java/lang/String" "value" "[B" (.ref r_3) := f10.same W11
  have f12 : Exa Z h11 a1 "java/lang/String" := (f9.wr W11)
  have f13 : Fld Z h11 a1 "java/lang/String" "coder" "B" (.int (1 : Int32)) := (F8.other W11 (Or.inr (slot_ne (Or.inr (w32 hw)) (Or.inr (w34 hw)) (by decide) (t := .byte) (t' := (.array .byte)) (by decide) (by decide))))
  have f14 : Arv Z h11 r_3 kb_3 .byte (8 : Int32) [(.int x0.toInt8.toInt32), (.int (x0 >>> ((8 : Int32) &&& 31)).toInt8.toInt32), (.int x1.toInt8.toInt32), (.int (x1 >>> ((8 : Int32) &&& 31)).toInt8.toInt32), (.int x2.toInt8.toInt32), (.int (x2 >>> ((8 : Int32) &&& 31)).toInt8.toInt32), (.int x3.toInt8.toInt32), (.int (x3 >>> ((8 : Int32) &&& 31)).toInt8.toInt32)] (.int (0 : Int32)) := (((p3_1.keep K5 nin0).other W8 (Ne.symm ne_a1_r_3)).other W11 (Ne.symm ne_a1_r_3))
  refine go_ret0 X11 hx hret hlk e11 (hb hby d3_57) (by decide) (by decide) ?_
  exact ⟨r_3, kb_3, rfl, N11, (((((Keep.refl h0 [a1]).trans K3 all0).trans K5 all0).wr W8 (Or.inl (List.mem_of_getElem? (i := 0) rfl))).wr W11 (Or.inl (List.mem_of_getElem? (i := 0) rfl))), sn_r_3, f12, f13, F11, f14⟩
set_option maxRecDepth 65536 in
set_option maxHeartbeats 40000000 in
theorem b3_2 (l : Launch) (Z : State) (a0 : Array Value) (hw : ∀ d ∈ tables_1, d.before a0 Z = true) (a1 : Addr) (a2 : Addr) (u1 : Value) (u2 : Value) (kc : ClassId) (dc : Value) (zc : Int32) (x0 : Int32) (x1 : Int32) (x2 : Int32) (x3 : Int32) (h0 : Heap) (n0 : Nat) (O0 : Old Z n0 h0) (E_0 : Exa Z h0 a1 "java/lang/String") (F_1 : Fld Z h0 a1 "java/lang/String" "value" "[B" u1) (F_2 : Fld Z h0 a1 "java/lang/String" "coder" "B" u2) (g_3 : n0 ≤ a1) (A_4 : Arv Z h0 a2 kc .char (4 : Int32) [(.int x0), (.int x1), (.int x2), (.int x3)] dc) (S_5 : Sta Z Z.heap "java/lang/String" "COMPACT_STRINGS" "Z" (.int zc)) (hr_6 : (¬ zc = 0)) (S_7 : Sta Z Z.heap "java/lang/StringUTF16" "$assertionsDisabled" "Z" (.int (1 : Int32))) (S_8 : Sta Z Z.heap "java/lang/StringUTF16" "HI_BYTE_SHIFT" "I" (.int (0 : Int32))) (S_9 : Sta Z Z.heap "java/lang/StringUTF16" "LO_BYTE_SHIFT" "I" (.int (8 : Int32))) (hr_10 : (¬ (255 : Int32) < x0)) (hr_11 : ((255 : Int32) < x1)) (hr_12 : (0 ≤ x0.toInt ∧ x0.toInt ≤ 65535)) (hr_13 : (0 ≤ x1.toInt ∧ x1.toInt ≤ 65535)) (hr_14 : (0 ≤ x2.toInt ∧ x2.toInt ≤ 65535)) (hr_15 : (0 ≤ x3.toInt ∧ x3.toInt ≤ 65535)) :
    Con l Z (⟨"java/lang/String", "<init>", "([CIILjava/lang/Void;)V"⟩ : MethodName) jdk_42_method_149_code 6 none ({ frames := 4, cells := 2, slots := 12, locals := 57 } : Room) #[(.ref a1), (.ref a2), (.int (0 : Int32)), (.int (4 : Int32)), .null] h0 (fun v h L => ∃ (r : Addr) (kb : ClassId), v = none ∧ Fr n0 L ∧ Keep h0 h [a1] ∧ h0.size ≤ r ∧ Exa Z h a1 "java/lang/String" ∧ Fld Z h a1 "java/lang/String" "coder" "B" (.int (1 : Int32)) ∧ Fld Z h a1 "java/lang/String" "value" "[B" (.ref r) ∧ Arv Z h r kb .byte (8 : Int32) [(.int x0.toInt8.toInt32), (.int (x0 >>> ((8 : Int32) &&& 31)).toInt8.toInt32), (.int x1.toInt8.toInt32), (.int (x1 >>> ((8 : Int32) &&& 31)).toInt8.toInt32), (.int x2.toInt8.toInt32), (.int (x2 >>> ((8 : Int32) &&& 31)).toInt8.toInt32), (.int x3.toInt8.toInt32), (.int (x3 >>> ((8 : Int32) &&& 31)).toInt8.toInt32)] (.int (0 : Int32))) := by
  refine Con.of (plainFor_of_name pn_1) ?_
  intro p e s m below meth c s₁ hx hby hml hZ hown hnm hret hlk X0 e0
  have N0 := Fr.nil n0
  refine go_cast (g' := mkF m 0 #[.val (.ref a1), .val (.ref a2), .val (.int (0 : Int32)), .val (.int (4 : Int32)), .val .null, .unset] []) ?_ (by first | (simp [entryFrame, mkF, argsToLocals, Value.category]; done) | rfl)
  refine go_aload_n (q := 1) X0 hx (hb hby d3_0) (v := (.ref a1)) rfl rfl rfl ?_
  refine go_initO (q := 4) (W := 0) X0 hx hZ hown (w16 hw) (w17 hw) (w18 hw) e0 (by rw [hml]; rfl) (hb hby d3_1) (by decide) (Nat.le_of_eq rfl) (by decide) rfl ?_
  intro T1 X1 e1
  refine go_iload_n (q := 5) X1 hx (hb hby d3_4) (v := (4 : Int32)) rfl rfl ?_
  refine go_ifY (q := 27) X1 hx (hb hby d3_5) (XT.i0_ne_t (by decide)) (by decide) (by decide) ?_
  refine go_getS (q := 30) (host := "") X1 hx hZ hown (Or.inl (w19 hw)) Via.refl e1 (Sta.ext O0.2 S_5) (hb hby d3_27) rfl ?_
  intro T2 X2 e2
  refine go_ifN (q := 33) X2 hx (hb hby d3_30) (XT.i0_eq_f hr_6) rfl ?_
  refine go_aload_n (q := 34) X2 hx (hb hby d3_33) (v := (.ref a2)) rfl rfl rfl ?_
  refine go_iload_n (q := 35) X2 hx (hb hby d3_34) (v := (0 : Int32)) rfl rfl ?_
  refine go_iload_n (q := 36) X2 hx (hb hby d3_35) (v := (4 : Int32)) rfl rfl ?_
  refine go_static (q := 39) X2 hx hZ hown (y := (⟨"java/lang/StringUTF16", "compress", "([CII)[B"⟩ : MethodName)) (w20 hw) (w21 hw) (w22 hw) (w23 hw) (by decide) e2 (b5_2 l Z a0 hw a2 kc dc x0 x1 x2 x3 h0 n0 O0 A_4 S_7 S_8 S_9 hr_10 hr_11 hr_12 hr_13 hr_14 hr_15) (argsL := [(.ref a2), (.int (0 : Int32)), (.int (4 : Int32))]) (rest := []) rfl (lenOf pd_4 rfl) rfl (by rw [hml]; rfl) (W := 0) (Nat.le_of_eq rfl) (hb hby d3_36) (by decide) (by decide) (by decide) (by decide) rfl ?_
  rintro T3 h3 _ L3 X3 e3 ⟨r_3, kb_3, rfl, M3, K3, p3_0, p3_1⟩
  have N3 := Fr.app N0 M3
  have fr_r_3 : n0 ≤ r_3 := Nat.le_trans (own_le O0) p3_0
  have sn_r_3 : h0.size ≤ r_3 := Nat.le_trans (Nat.le_refl _) p3_0
  have ne_a1_r_3 : a1 ≠ r_3 := own_ltg p3_0 F_2.lt
  have ne_a2_r_3 : a2 ≠ r_3 := own_ltg p3_0 A_4.lt
  refine go_astore (q := 41) X3 hx (hb hby d3_39) rfl (l' := #[.val (.ref a1), .val (.ref a2), .val (.int (0 : Int32)), .val (.int (4 : Int32)), .val .null, .val (.ref r_3)]) rfl rfl ?_
  refine go_aload_n (q := 42) X3 hx (hb hby d3_41) (v := (.ref a1)) rfl rfl rfl ?_
  refine go_aload (q := 44) X3 hx (hb hby d3_42) (v := (.ref r_3)) rfl rfl rfl ?_
  refine go_iload_n (q := 45) X3 hx (hb hby d3_44) (v := (4 : Int32)) rfl rfl ?_
  have O4 : Old Z n0 h3 := (O0.keep K3 all0)
  refine go_static (q := 48) X3 hx hZ hown (y := (⟨"java/lang/StringUTF16", "coderFromArrayLen", "([BI)B"⟩ : MethodName)) (w28 hw) (w29 hw) (w22 hw) (w30 hw) (by decide) e3 (b7_1 l Z a0 hw r_3 kb_3 [(.int x0.toInt8.toInt32), (.int (x0 >>> ((8 : Int32) &&& 31)).toInt8.toInt32), (.int x1.toInt8.toInt32), (.int (x1 >>> ((8 : Int32) &&& 31)).toInt8.toInt32), (.int x2.toInt8.toInt32), (.int (x2 >>> ((8 : Int32) &&& 31)).toInt8.toInt32), (.int x3.toInt8.toInt32), (.int (x3 >>> ((8 : Int32) &&& 31)).toInt8.toInt32)] h3 n0 O4 p3_1) (argsL := [(.ref r_3), (.int (4 : Int32))]) (rest := [(.ref a1)]) rfl (lenOf pd_6 rfl) rfl (by rw [hml]; rfl) (W := 1) (Nat.le_of_eq rfl) (hb hby d3_45) (by decide) (by decide) (by decide) (by decide) rfl ?_
  rintro T5 h5 _ L5 X5 e5 ⟨rfl, M5, K5⟩
  have N5 := Fr.app N3 M5
  have f6 : Exa Z h5 a1 "java/lang/String" := ((E_0.keep K3).keep K5)
  have f7 : Fld Z h5 a1 "java/lang/String" "coder" "B" u2 := ((F_2.keep K3 nin0).keep K5 nin0)
  refine go_putF (q := 51) (host := "") X5 hx hZ hown (Or.inl (w31 hw)) Via.refl e5 f7 f6 (Or.inr ⟨(w32 hw), rfl, hnm⟩) (w7 hw) (ty := .byte) (by decide) (by decide) (by decide) (hb hby d3_48) rfl ?_
  intro T8 h8 X8 e8 W8
  have N8 := Fr.snoc X8 N5 g_3
  have F8 : Fld Z h8 a1 "java/lang/String" "coder" "B" (.int (1 : Int32)) := f7.same W8
  refine go_aload_n (q := 52) X8 hx (hb hby d3_51) (v := (.ref a1)) rfl rfl rfl ?_
  refine go_aload (q := 54) X8 hx (hb hby d3_52) (v := (.ref r_3)) rfl rfl rfl ?_
  have f9 : Exa Z h8 a1 "java/lang/String" := (f6.wr W8)
  have f10 : Fld Z h8 a1 "java/lang/String" "value" "[B" u1 := (((F_1.keep K3 nin0).keep K5 nin0).other W8 (Or.inr (slot_ne (Or.inr (w34 hw)) (Or.inr (w32 hw)) (by decide) (t := (.array .byte)) (t' := .byte) (by decide) (by decide))))
  refine go_putF (q := 57) (host := "") X8 hx hZ hown (Or.inl (w33 hw)) Via.refl e8 f10 f9 (Or.inr ⟨(w34 hw), rfl, hnm⟩) (w7 hw) (ty := (.array .byte)) (by decide) rfl rfl (hb hby d3_54) rfl ?_
  intro T11 h11 X11 e11 W11
  have N11 := Fr.snoc X11 N8 g_3
  have F11 : Fld Z h11 a1 "java/lang/String" "value" "[B" (.ref r_3) := f10.same W11
  have f12 : Exa Z h11 a1 "java/lang/String" := (f9.wr W11)
  have f13 : Fld Z h11 a1 "java/lang/String" "coder" "B" (.int (1 : Int32)) := (F8.other W11 (Or.inr (slot_ne (Or.inr (w32 hw)) (Or.inr (w34 hw)) (by decide) (t := .byte) (t' := (.array .byte)) (by decide) (by decide))))
  have f14 : Arv Z h11 r_3 kb_3 .byte (8 : Int32) [(.int x0.toInt8.toInt32), (.int (x0 >>> ((8 : Int32) &&& 31)).toInt8.toInt32), (.int x1.toInt8.toInt32), (.int (x1 >>> ((8 : Int32) &&& 31)).toInt8.toInt32), (.int x2.toInt8.toInt32), (.int (x2 >>> ((8 : Int32) &&& 31)).toInt8.toInt32), (.int x3.toInt8.toInt32), (.int (x3 >>> ((8 : Int32) &&& 31)).toInt8.toInt32)] (.int (0 : Int32)) := (((p3_1.keep K5 nin0).other W8 (Ne.symm ne_a1_r_3)).other W11 (Ne.symm ne_a1_r_3))
  refine go_ret0 X11 hx hret hlk e11 (hb hby d3_57) (by decide) (by decide) ?_
  exact ⟨r_3, kb_3, rfl, N11, (((((Keep.refl h0 [a1]).trans K3 all0).trans K5 all0).wr W8 (Or.inl (List.mem_of_getElem? (i := 0) rfl))).wr W11 (Or.inl (List.mem_of_getElem? (i := 0) rfl))), sn_r_3, f12, f13, F11, f14⟩
set_option maxRecDepth 65536 in
set_option maxHeartbeats 40000000 in
theorem b3_3 (l : Launch) (Z : State) (a0 : Array Value) (hw : ∀ d ∈ tables_1, d.before a0 Z = true) (a1 : Addr) (a2 : Addr) (u1 : Value) (u2 : Value) (kc : ClassId) (dc : Value) (zc : Int32) (x0 : Int32) (x1 : Int32) (x2 : Int32) (x3 : Int32) (h0 : Heap) (n0 : Nat) (O0 : Old Z n0 h0) (E_0 : Exa Z h0 a1 "java/lang/String") (F_1 : Fld Z h0 a1 "java/lang/String" "value" "[B" u1) (F_2 : Fld Z h0 a1 "java/lang/String" "coder" "B" u2) (g_3 : n0 ≤ a1) (A_4 : Arv Z h0 a2 kc .char (4 : Int32) [(.int x0), (.int x1), (.int x2), (.int x3)] dc) (S_5 : Sta Z Z.heap "java/lang/String" "COMPACT_STRINGS" "Z" (.int zc)) (hr_6 : (¬ zc = 0)) (S_7 : Sta Z Z.heap "java/lang/StringUTF16" "$assertionsDisabled" "Z" (.int (1 : Int32))) (S_8 : Sta Z Z.heap "java/lang/StringUTF16" "HI_BYTE_SHIFT" "I" (.int (0 : Int32))) (S_9 : Sta Z Z.heap "java/lang/StringUTF16" "LO_BYTE_SHIFT" "I" (.int (8 : Int32))) (hr_10 : (¬ (255 : Int32) < x0)) (hr_11 : (¬ (255 : Int32) < x1)) (hr_12 : ((255 : Int32) < x2)) (hr_13 : (0 ≤ x0.toInt ∧ x0.toInt ≤ 65535)) (hr_14 : (0 ≤ x1.toInt ∧ x1.toInt ≤ 65535)) (hr_15 : (0 ≤ x2.toInt ∧ x2.toInt ≤ 65535)) (hr_16 : (0 ≤ x3.toInt ∧ x3.toInt ≤ 65535)) :
    Con l Z (⟨"java/lang/String", "<init>", "([CIILjava/lang/Void;)V"⟩ : MethodName) jdk_42_method_149_code 6 none ({ frames := 4, cells := 2, slots := 12, locals := 57 } : Room) #[(.ref a1), (.ref a2), (.int (0 : Int32)), (.int (4 : Int32)), .null] h0 (fun v h L => ∃ (r : Addr) (kb : ClassId), v = none ∧ Fr n0 L ∧ Keep h0 h [a1] ∧ h0.size ≤ r ∧ Exa Z h a1 "java/lang/String" ∧ Fld Z h a1 "java/lang/String" "coder" "B" (.int (1 : Int32)) ∧ Fld Z h a1 "java/lang/String" "value" "[B" (.ref r) ∧ Arv Z h r kb .byte (8 : Int32) [(.int x0.toInt8.toInt32), (.int (x0 >>> ((8 : Int32) &&& 31)).toInt8.toInt32), (.int x1.toInt8.toInt32), (.int (x1 >>> ((8 : Int32) &&& 31)).toInt8.toInt32), (.int x2.toInt8.toInt32), (.int (x2 >>> ((8 : Int32) &&& 31)).toInt8.toInt32), (.int x3.toInt8.toInt32), (.int (x3 >>> ((8 : Int32) &&& 31)).toInt8.toInt32)] (.int (0 : Int32))) := by
  refine Con.of (plainFor_of_name pn_1) ?_
  intro p e s m below meth c s₁ hx hby hml hZ hown hnm hret hlk X0 e0
  have N0 := Fr.nil n0
  refine go_cast (g' := mkF m 0 #[.val (.ref a1), .val (.ref a2), .val (.int (0 : Int32)), .val (.int (4 : Int32)), .val .null, .unset] []) ?_ (by first | (simp [entryFrame, mkF, argsToLocals, Value.category]; done) | rfl)
  refine go_aload_n (q := 1) X0 hx (hb hby d3_0) (v := (.ref a1)) rfl rfl rfl ?_
  refine go_initO (q := 4) (W := 0) X0 hx hZ hown (w16 hw) (w17 hw) (w18 hw) e0 (by rw [hml]; rfl) (hb hby d3_1) (by decide) (Nat.le_of_eq rfl) (by decide) rfl ?_
  intro T1 X1 e1
  refine go_iload_n (q := 5) X1 hx (hb hby d3_4) (v := (4 : Int32)) rfl rfl ?_
  refine go_ifY (q := 27) X1 hx (hb hby d3_5) (XT.i0_ne_t (by decide)) (by decide) (by decide) ?_
  refine go_getS (q := 30) (host := "") X1 hx hZ hown (Or.inl (w19 hw)) Via.refl e1 (Sta.ext O0.2 S_5) (hb hby d3_27) rfl ?_
  intro T2 X2 e2
  refine go_ifN (q := 33) X2 hx (hb hby d3_30) (XT.i0_eq_f hr_6) rfl ?_
  refine go_aload_n (q := 34) X2 hx (hb hby d3_33) (v := (.ref a2)) rfl rfl rfl ?_
  refine go_iload_n (q := 35) X2 hx (hb hby d3_34) (v := (0 : Int32)) rfl rfl ?_
  refine go_iload_n (q := 36) X2 hx (hb hby d3_35) (v := (4 : Int32)) rfl rfl ?_
  refine go_static (q := 39) X2 hx hZ hown (y := (⟨"java/lang/StringUTF16", "compress", "([CII)[B"⟩ : MethodName)) (w20 hw) (w21 hw) (w22 hw) (w23 hw) (by decide) e2 (b5_3 l Z a0 hw a2 kc dc x0 x1 x2 x3 h0 n0 O0 A_4 S_7 S_8 S_9 hr_10 hr_11 hr_12 hr_13 hr_14 hr_15 hr_16) (argsL := [(.ref a2), (.int (0 : Int32)), (.int (4 : Int32))]) (rest := []) rfl (lenOf pd_4 rfl) rfl (by rw [hml]; rfl) (W := 0) (Nat.le_of_eq rfl) (hb hby d3_36) (by decide) (by decide) (by decide) (by decide) rfl ?_
  rintro T3 h3 _ L3 X3 e3 ⟨r_3, kb_3, rfl, M3, K3, p3_0, p3_1⟩
  have N3 := Fr.app N0 M3
  have fr_r_3 : n0 ≤ r_3 := Nat.le_trans (own_le O0) p3_0
  have sn_r_3 : h0.size ≤ r_3 := Nat.le_trans (Nat.le_refl _) p3_0
  have ne_a1_r_3 : a1 ≠ r_3 := own_ltg p3_0 F_2.lt
  have ne_a2_r_3 : a2 ≠ r_3 := own_ltg p3_0 A_4.lt
  refine go_astore (q := 41) X3 hx (hb hby d3_39) rfl (l' := #[.val (.ref a1), .val (.ref a2), .val (.int (0 : Int32)), .val (.int (4 : Int32)), .val .null, .val (.ref r_3)]) rfl rfl ?_
  refine go_aload_n (q := 42) X3 hx (hb hby d3_41) (v := (.ref a1)) rfl rfl rfl ?_
  refine go_aload (q := 44) X3 hx (hb hby d3_42) (v := (.ref r_3)) rfl rfl rfl ?_
  refine go_iload_n (q := 45) X3 hx (hb hby d3_44) (v := (4 : Int32)) rfl rfl ?_
  have O4 : Old Z n0 h3 := (O0.keep K3 all0)
  refine go_static (q := 48) X3 hx hZ hown (y := (⟨"java/lang/StringUTF16", "coderFromArrayLen", "([BI)B"⟩ : MethodName)) (w28 hw) (w29 hw) (w22 hw) (w30 hw) (by decide) e3 (b7_1 l Z a0 hw r_3 kb_3 [(.int x0.toInt8.toInt32), (.int (x0 >>> ((8 : Int32) &&& 31)).toInt8.toInt32), (.int x1.toInt8.toInt32), (.int (x1 >>> ((8 : Int32) &&& 31)).toInt8.toInt32), (.int x2.toInt8.toInt32), (.int (x2 >>> ((8 : Int32) &&& 31)).toInt8.toInt32), (.int x3.toInt8.toInt32), (.int (x3 >>> ((8 : Int32) &&& 31)).toInt8.toInt32)] h3 n0 O4 p3_1) (argsL := [(.ref r_3), (.int (4 : Int32))]) (rest := [(.ref a1)]) rfl (lenOf pd_6 rfl) rfl (by rw [hml]; rfl) (W := 1) (Nat.le_of_eq rfl) (hb hby d3_45) (by decide) (by decide) (by decide) (by decide) rfl ?_
  rintro T5 h5 _ L5 X5 e5 ⟨rfl, M5, K5⟩
  have N5 := Fr.app N3 M5
  have f6 : Exa Z h5 a1 "java/lang/String" := ((E_0.keep K3).keep K5)
  have f7 : Fld Z h5 a1 "java/lang/String" "coder" "B" u2 := ((F_2.keep K3 nin0).keep K5 nin0)
  refine go_putF (q := 51) (host := "") X5 hx hZ hown (Or.inl (w31 hw)) Via.refl e5 f7 f6 (Or.inr ⟨(w32 hw), rfl, hnm⟩) (w7 hw) (ty := .byte) (by decide) (by decide) (by decide) (hb hby d3_48) rfl ?_
  intro T8 h8 X8 e8 W8
  have N8 := Fr.snoc X8 N5 g_3
  have F8 : Fld Z h8 a1 "java/lang/String" "coder" "B" (.int (1 : Int32)) := f7.same W8
  refine go_aload_n (q := 52) X8 hx (hb hby d3_51) (v := (.ref a1)) rfl rfl rfl ?_
  refine go_aload (q := 54) X8 hx (hb hby d3_52) (v := (.ref r_3)) rfl rfl rfl ?_
  have f9 : Exa Z h8 a1 "java/lang/String" := (f6.wr W8)
  have f10 : Fld Z h8 a1 "java/lang/String" "value" "[B" u1 := (((F_1.keep K3 nin0).keep K5 nin0).other W8 (Or.inr (slot_ne (Or.inr (w34 hw)) (Or.inr (w32 hw)) (by decide) (t := (.array .byte)) (t' := .byte) (by decide) (by decide))))
  refine go_putF (q := 57) (host := "") X8 hx hZ hown (Or.inl (w33 hw)) Via.refl e8 f10 f9 (Or.inr ⟨(w34 hw), rfl, hnm⟩) (w7 hw) (ty := (.array .byte)) (by decide) rfl rfl (hb hby d3_54) rfl ?_
  intro T11 h11 X11 e11 W11
  have N11 := Fr.snoc X11 N8 g_3
  have F11 : Fld Z h11 a1 "java/lang/String" "value" "[B" (.ref r_3) := f10.same W11
  have f12 : Exa Z h11 a1 "java/lang/String" := (f9.wr W11)
  have f13 : Fld Z h11 a1 "java/lang/String" "coder" "B" (.int (1 : Int32)) := (F8.other W11 (Or.inr (slot_ne (Or.inr (w32 hw)) (Or.inr (w34 hw)) (by decide) (t := .byte) (t' := (.array .byte)) (by decide) (by decide))))
  have f14 : Arv Z h11 r_3 kb_3 .byte (8 : Int32) [(.int x0.toInt8.toInt32), (.int (x0 >>> ((8 : Int32) &&& 31)).toInt8.toInt32), (.int x1.toInt8.toInt32), (.int (x1 >>> ((8 : Int32) &&& 31)).toInt8.toInt32), (.int x2.toInt8.toInt32), (.int (x2 >>> ((8 : Int32) &&& 31)).toInt8.toInt32), (.int x3.toInt8.toInt32), (.int (x3 >>> ((8 : Int32) &&& 31)).toInt8.toInt32)] (.int (0 : Int32)) := (((p3_1.keep K5 nin0).other W8 (Ne.symm ne_a1_r_3)).other W11 (Ne.symm ne_a1_r_3))
  refine go_ret0 X11 hx hret hlk e11 (hb hby d3_57) (by decide) (by decide) ?_
  exact ⟨r_3, kb_3, rfl, N11, (((((Keep.refl h0 [a1]).trans K3 all0).trans K5 all0).wr W8 (Or.inl (List.mem_of_getElem? (i := 0) rfl))).wr W11 (Or.inl (List.mem_of_getElem? (i := 0) rfl))), sn_r_3, f12, f13, F11, f14⟩
set_option maxRecDepth 65536 in
set_option maxHeartbeats 40000000 in
theorem b3_4 (l : Launch) (Z : State) (a0 : Array Value) (hw : ∀ d ∈ tables_1, d.before a0 Z = true) (a1 : Addr) (a2 : Addr) (u1 : Value) (u2 : Value) (kc : ClassId) (dc : Value) (zc : Int32) (x0 : Int32) (x1 : Int32) (x2 : Int32) (x3 : Int32) (h0 : Heap) (n0 : Nat) (O0 : Old Z n0 h0) (E_0 : Exa Z h0 a1 "java/lang/String") (F_1 : Fld Z h0 a1 "java/lang/String" "value" "[B" u1) (F_2 : Fld Z h0 a1 "java/lang/String" "coder" "B" u2) (g_3 : n0 ≤ a1) (A_4 : Arv Z h0 a2 kc .char (4 : Int32) [(.int x0), (.int x1), (.int x2), (.int x3)] dc) (S_5 : Sta Z Z.heap "java/lang/String" "COMPACT_STRINGS" "Z" (.int zc)) (hr_6 : (¬ zc = 0)) (S_7 : Sta Z Z.heap "java/lang/StringUTF16" "$assertionsDisabled" "Z" (.int (1 : Int32))) (S_8 : Sta Z Z.heap "java/lang/StringUTF16" "HI_BYTE_SHIFT" "I" (.int (0 : Int32))) (S_9 : Sta Z Z.heap "java/lang/StringUTF16" "LO_BYTE_SHIFT" "I" (.int (8 : Int32))) (hr_10 : (¬ (255 : Int32) < x0)) (hr_11 : (¬ (255 : Int32) < x1)) (hr_12 : (¬ (255 : Int32) < x2)) (hr_13 : ((255 : Int32) < x3)) (hr_14 : (0 ≤ x0.toInt ∧ x0.toInt ≤ 65535)) (hr_15 : (0 ≤ x1.toInt ∧ x1.toInt ≤ 65535)) (hr_16 : (0 ≤ x2.toInt ∧ x2.toInt ≤ 65535)) (hr_17 : (0 ≤ x3.toInt ∧ x3.toInt ≤ 65535)) :
    Con l Z (⟨"java/lang/String", "<init>", "([CIILjava/lang/Void;)V"⟩ : MethodName) jdk_42_method_149_code 6 none ({ frames := 4, cells := 2, slots := 12, locals := 57 } : Room) #[(.ref a1), (.ref a2), (.int (0 : Int32)), (.int (4 : Int32)), .null] h0 (fun v h L => ∃ (r : Addr) (kb : ClassId), v = none ∧ Fr n0 L ∧ Keep h0 h [a1] ∧ h0.size ≤ r ∧ Exa Z h a1 "java/lang/String" ∧ Fld Z h a1 "java/lang/String" "coder" "B" (.int (1 : Int32)) ∧ Fld Z h a1 "java/lang/String" "value" "[B" (.ref r) ∧ Arv Z h r kb .byte (8 : Int32) [(.int x0.toInt8.toInt32), (.int (x0 >>> ((8 : Int32) &&& 31)).toInt8.toInt32), (.int x1.toInt8.toInt32), (.int (x1 >>> ((8 : Int32) &&& 31)).toInt8.toInt32), (.int x2.toInt8.toInt32), (.int (x2 >>> ((8 : Int32) &&& 31)).toInt8.toInt32), (.int x3.toInt8.toInt32), (.int (x3 >>> ((8 : Int32) &&& 31)).toInt8.toInt32)] (.int (0 : Int32))) := by
  refine Con.of (plainFor_of_name pn_1) ?_
  intro p e s m below meth c s₁ hx hby hml hZ hown hnm hret hlk X0 e0
  have N0 := Fr.nil n0
  refine go_cast (g' := mkF m 0 #[.val (.ref a1), .val (.ref a2), .val (.int (0 : Int32)), .val (.int (4 : Int32)), .val .null, .unset] []) ?_ (by first | (simp [entryFrame, mkF, argsToLocals, Value.category]; done) | rfl)
  refine go_aload_n (q := 1) X0 hx (hb hby d3_0) (v := (.ref a1)) rfl rfl rfl ?_
  refine go_initO (q := 4) (W := 0) X0 hx hZ hown (w16 hw) (w17 hw) (w18 hw) e0 (by rw [hml]; rfl) (hb hby d3_1) (by decide) (Nat.le_of_eq rfl) (by decide) rfl ?_
  intro T1 X1 e1
  refine go_iload_n (q := 5) X1 hx (hb hby d3_4) (v := (4 : Int32)) rfl rfl ?_
  refine go_ifY (q := 27) X1 hx (hb hby d3_5) (XT.i0_ne_t (by decide)) (by decide) (by decide) ?_
  refine go_getS (q := 30) (host := "") X1 hx hZ hown (Or.inl (w19 hw)) Via.refl e1 (Sta.ext O0.2 S_5) (hb hby d3_27) rfl ?_
  intro T2 X2 e2
  refine go_ifN (q := 33) X2 hx (hb hby d3_30) (XT.i0_eq_f hr_6) rfl ?_
  refine go_aload_n (q := 34) X2 hx (hb hby d3_33) (v := (.ref a2)) rfl rfl rfl ?_
  refine go_iload_n (q := 35) X2 hx (hb hby d3_34) (v := (0 : Int32)) rfl rfl ?_
  refine go_iload_n (q := 36) X2 hx (hb hby d3_35) (v := (4 : Int32)) rfl rfl ?_
  refine go_static (q := 39) X2 hx hZ hown (y := (⟨"java/lang/StringUTF16", "compress", "([CII)[B"⟩ : MethodName)) (w20 hw) (w21 hw) (w22 hw) (w23 hw) (by decide) e2 (b5_4 l Z a0 hw a2 kc dc x0 x1 x2 x3 h0 n0 O0 A_4 S_7 S_8 S_9 hr_10 hr_11 hr_12 hr_13 hr_14 hr_15 hr_16 hr_17) (argsL := [(.ref a2), (.int (0 : Int32)), (.int (4 : Int32))]) (rest := []) rfl (lenOf pd_4 rfl) rfl (by rw [hml]; rfl) (W := 0) (Nat.le_of_eq rfl) (hb hby d3_36) (by decide) (by decide) (by decide) (by decide) rfl ?_
  rintro T3 h3 _ L3 X3 e3 ⟨r_3, kb_3, rfl, M3, K3, p3_0, p3_1⟩
  have N3 := Fr.app N0 M3
  have fr_r_3 : n0 ≤ r_3 := Nat.le_trans (own_le O0) p3_0
  have sn_r_3 : h0.size ≤ r_3 := Nat.le_trans (Nat.le_refl _) p3_0
  have ne_a1_r_3 : a1 ≠ r_3 := own_ltg p3_0 F_2.lt
  have ne_a2_r_3 : a2 ≠ r_3 := own_ltg p3_0 A_4.lt
  refine go_astore (q := 41) X3 hx (hb hby d3_39) rfl (l' := #[.val (.ref a1), .val (.ref a2), .val (.int (0 : Int32)), .val (.int (4 : Int32)), .val .null, .val (.ref r_3)]) rfl rfl ?_
  refine go_aload_n (q := 42) X3 hx (hb hby d3_41) (v := (.ref a1)) rfl rfl rfl ?_
  refine go_aload (q := 44) X3 hx (hb hby d3_42) (v := (.ref r_3)) rfl rfl rfl ?_
  refine go_iload_n (q := 45) X3 hx (hb hby d3_44) (v := (4 : Int32)) rfl rfl ?_
  have O4 : Old Z n0 h3 := (O0.keep K3 all0)
  refine go_static (q := 48) X3 hx hZ hown (y := (⟨"java/lang/StringUTF16", "coderFromArrayLen", "([BI)B"⟩ : MethodName)) (w28 hw) (w29 hw) (w22 hw) (w30 hw) (by decide) e3 (b7_1 l Z a0 hw r_3 kb_3 [(.int x0.toInt8.toInt32), (.int (x0 >>> ((8 : Int32) &&& 31)).toInt8.toInt32), (.int x1.toInt8.toInt32), (.int (x1 >>> ((8 : Int32) &&& 31)).toInt8.toInt32), (.int x2.toInt8.toInt32), (.int (x2 >>> ((8 : Int32) &&& 31)).toInt8.toInt32), (.int x3.toInt8.toInt32), (.int (x3 >>> ((8 : Int32) &&& 31)).toInt8.toInt32)] h3 n0 O4 p3_1) (argsL := [(.ref r_3), (.int (4 : Int32))]) (rest := [(.ref a1)]) rfl (lenOf pd_6 rfl) rfl (by rw [hml]; rfl) (W := 1) (Nat.le_of_eq rfl) (hb hby d3_45) (by decide) (by decide) (by decide) (by decide) rfl ?_
  rintro T5 h5 _ L5 X5 e5 ⟨rfl, M5, K5⟩
  have N5 := Fr.app N3 M5
  have f6 : Exa Z h5 a1 "java/lang/String" := ((E_0.keep K3).keep K5)
  have f7 : Fld Z h5 a1 "java/lang/String" "coder" "B" u2 := ((F_2.keep K3 nin0).keep K5 nin0)
  refine go_putF (q := 51) (host := "") X5 hx hZ hown (Or.inl (w31 hw)) Via.refl e5 f7 f6 (Or.inr ⟨(w32 hw), rfl, hnm⟩) (w7 hw) (ty := .byte) (by decide) (by decide) (by decide) (hb hby d3_48) rfl ?_
  intro T8 h8 X8 e8 W8
  have N8 := Fr.snoc X8 N5 g_3
  have F8 : Fld Z h8 a1 "java/lang/String" "coder" "B" (.int (1 : Int32)) := f7.same W8
  refine go_aload_n (q := 52) X8 hx (hb hby d3_51) (v := (.ref a1)) rfl rfl rfl ?_
  refine go_aload (q := 54) X8 hx (hb hby d3_52) (v := (.ref r_3)) rfl rfl rfl ?_
  have f9 : Exa Z h8 a1 "java/lang/String" := (f6.wr W8)
  have f10 : Fld Z h8 a1 "java/lang/String" "value" "[B" u1 := (((F_1.keep K3 nin0).keep K5 nin0).other W8 (Or.inr (slot_ne (Or.inr (w34 hw)) (Or.inr (w32 hw)) (by decide) (t := (.array .byte)) (t' := .byte) (by decide) (by decide))))
  refine go_putF (q := 57) (host := "") X8 hx hZ hown (Or.inl (w33 hw)) Via.refl e8 f10 f9 (Or.inr ⟨(w34 hw), rfl, hnm⟩) (w7 hw) (ty := (.array .byte)) (by decide) rfl rfl (hb hby d3_54) rfl ?_
  intro T11 h11 X11 e11 W11
  have N11 := Fr.snoc X11 N8 g_3
  have F11 : Fld Z h11 a1 "java/lang/String" "value" "[B" (.ref r_3) := f10.same W11
  have f12 : Exa Z h11 a1 "java/lang/String" := (f9.wr W11)
  have f13 : Fld Z h11 a1 "java/lang/String" "coder" "B" (.int (1 : Int32)) := (F8.other W11 (Or.inr (slot_ne (Or.inr (w32 hw)) (Or.inr (w34 hw)) (by decide) (t := .byte) (t' := (.array .byte)) (by decide) (by decide))))
  have f14 : Arv Z h11 r_3 kb_3 .byte (8 : Int32) [(.int x0.toInt8.toInt32), (.int (x0 >>> ((8 : Int32) &&& 31)).toInt8.toInt32), (.int x1.toInt8.toInt32), (.int (x1 >>> ((8 : Int32) &&& 31)).toInt8.toInt32), (.int x2.toInt8.toInt32), (.int (x2 >>> ((8 : Int32) &&& 31)).toInt8.toInt32), (.int x3.toInt8.toInt32), (.int (x3 >>> ((8 : Int32) &&& 31)).toInt8.toInt32)] (.int (0 : Int32)) := (((p3_1.keep K5 nin0).other W8 (Ne.symm ne_a1_r_3)).other W11 (Ne.symm ne_a1_r_3))
  refine go_ret0 X11 hx hret hlk e11 (hb hby d3_57) (by decide) (by decide) ?_
  exact ⟨r_3, kb_3, rfl, N11, (((((Keep.refl h0 [a1]).trans K3 all0).trans K5 all0).wr W8 (Or.inl (List.mem_of_getElem? (i := 0) rfl))).wr W11 (Or.inl (List.mem_of_getElem? (i := 0) rfl))), sn_r_3, f12, f13, F11, f14⟩
set_option maxRecDepth 65536 in
set_option maxHeartbeats 40000000 in
theorem b2 (l : Launch) (Z : State) (a0 : Array Value) (hw : ∀ d ∈ tables_1, d.before a0 Z = true) (a1 : Addr) (a2 : Addr) (u1 : Value) (u2 : Value) (kc : ClassId) (dc : Value) (zc : Int32) (x0 : Int32) (x1 : Int32) (x2 : Int32) (x3 : Int32) (h0 : Heap) (n0 : Nat) (O0 : Old Z n0 h0) (E_0 : Exa Z h0 a1 "java/lang/String") (F_1 : Fld Z h0 a1 "java/lang/String" "value" "[B" u1) (F_2 : Fld Z h0 a1 "java/lang/String" "coder" "B" u2) (g_3 : n0 ≤ a1) (A_4 : Arv Z h0 a2 kc .char (4 : Int32) [(.int x0), (.int x1), (.int x2), (.int x3)] dc) (S_5 : Sta Z Z.heap "java/lang/String" "COMPACT_STRINGS" "Z" (.int zc)) (hr_6 : (¬ zc = 0)) (S_7 : Sta Z Z.heap "java/lang/StringUTF16" "$assertionsDisabled" "Z" (.int (1 : Int32))) (S_8 : Sta Z Z.heap "java/lang/StringUTF16" "HI_BYTE_SHIFT" "I" (.int (0 : Int32))) (S_9 : Sta Z Z.heap "java/lang/StringUTF16" "LO_BYTE_SHIFT" "I" (.int (8 : Int32))) (hr_10 : (0 ≤ x0.toInt ∧ x0.toInt ≤ 65535)) (hr_11 : (0 ≤ x1.toInt ∧ x1.toInt ≤ 65535)) (hr_12 : (0 ≤ x2.toInt ∧ x2.toInt ≤ 65535)) (hr_13 : (0 ≤ x3.toInt ∧ x3.toInt ≤ 65535)) :
    Con l Z (⟨"java/lang/String", "<init>", "([C)V"⟩ : MethodName) jdk_42_method_3_code 2 none ({ frames := 5, cells := 2, slots := 12, locals := 74 } : Room) #[(.ref a1), (.ref a2)] h0 (fun v h L => v = none ∧ Fr n0 L ∧ Keep h0 h [a1] ∧ Str4 Z h a1 x0 x1 x2 x3 ∧ Exa Z h a1 "java/lang/String") := by
  refine Con.of (plainFor_of_name pn_1) ?_
  intro p e s m below meth c s₁ hx hby hml hZ hown hnm hret hlk X0 e0
  have N0 := Fr.nil n0
  refine go_cast (g' := mkF m 0 #[.val (.ref a1), .val (.ref a2)] []) ?_ (by first | (simp [entryFrame, mkF, argsToLocals, Value.category]; done) | rfl)
  by_cases c1 : (255 : Int32) < x0
  · refine go_aload_n (q := 1) X0 hx (hb hby d2_0) (v := (.ref a1)) rfl rfl rfl ?_
    refine go_aload_n (q := 2) X0 hx (hb hby d2_1) (v := (.ref a2)) rfl rfl rfl ?_
    refine go_iconst (q := 3) X0 hx (hb hby d2_2) (v := (0 : Int32)) (by decide) rfl ?_
    refine go_aload_n (q := 4) X0 hx (hb hby d2_3) (v := (.ref a2)) rfl rfl rfl ?_
    refine go_alen (q := 5) X0 hx hZ e0 A_4 (hb hby d2_4) rfl ?_
    refine go_aconst_null (q := 6) X0 hx (hb hby d2_5)  rfl ?_
    refine go_special (q := 9) X0 hx hZ hown (y := (⟨"java/lang/String", "<init>", "([CIILjava/lang/Void;)V"⟩ : MethodName)) (a := a1) rfl (w12 hw) (w13 hw) (w8 hw) (w15 hw) (by decide) e0 (b3_1 l Z a0 hw a1 a2 u1 u2 kc dc zc x0 x1 x2 x3 h0 n0 O0 E_0 F_1 F_2 g_3 A_4 S_5 hr_6 S_7 S_8 S_9 c1 hr_10 hr_11 hr_12 hr_13) (argsL := [(.ref a2), (.int (0 : Int32)), (.int (4 : Int32)), .null]) (rest := []) rfl (lenOf pd_7 rfl) rfl (by rw [hml]; rfl) (W := 0) (Nat.le_of_eq rfl) (hb hby d2_6) (by decide) (by decide) (by decide) (by decide) rfl ?_
    rintro T2 h2 _ L2 X2 e2 ⟨r_2, kb_2, rfl, M2, K2, p2_0, p2_1, p2_2, p2_3, p2_4⟩
    have N2 := Fr.app N0 M2
    have fr_r_2 : n0 ≤ r_2 := Nat.le_trans (own_le O0) p2_0
    have sn_r_2 : h0.size ≤ r_2 := Nat.le_trans (Nat.le_refl _) p2_0
    have ne_a1_r_2 : a1 ≠ r_2 := own_ltg p2_0 F_2.lt
    have ne_a2_r_2 : a2 ≠ r_2 := own_ltg p2_0 A_4.lt
    refine go_ret0 X2 hx hret hlk e2 (hb hby d2_9) (by decide) (by decide) ?_
    exact ⟨(by first | rfl | simp [c1] | simp_all), N2, ((Keep.refl h0 [a1]).trans K2 (allS (P := fun x => x ∈ [a1] ∨ h0.size ≤ x) (Or.inl (List.mem_of_getElem? (i := 0) rfl)) all0)), ⟨_, _, p2_1, p2_3, Or.inr ⟨p2_2, p2_4⟩⟩, p2_1⟩
  · by_cases c3 : (255 : Int32) < x1
    · refine go_aload_n (q := 1) X0 hx (hb hby d2_0) (v := (.ref a1)) rfl rfl rfl ?_
      refine go_aload_n (q := 2) X0 hx (hb hby d2_1) (v := (.ref a2)) rfl rfl rfl ?_
      refine go_iconst (q := 3) X0 hx (hb hby d2_2) (v := (0 : Int32)) (by decide) rfl ?_
      refine go_aload_n (q := 4) X0 hx (hb hby d2_3) (v := (.ref a2)) rfl rfl rfl ?_
      refine go_alen (q := 5) X0 hx hZ e0 A_4 (hb hby d2_4) rfl ?_
      refine go_aconst_null (q := 6) X0 hx (hb hby d2_5)  rfl ?_
      refine go_special (q := 9) X0 hx hZ hown (y := (⟨"java/lang/String", "<init>", "([CIILjava/lang/Void;)V"⟩ : MethodName)) (a := a1) rfl (w12 hw) (w13 hw) (w8 hw) (w15 hw) (by decide) e0 (b3_2 l Z a0 hw a1 a2 u1 u2 kc dc zc x0 x1 x2 x3 h0 n0 O0 E_0 F_1 F_2 g_3 A_4 S_5 hr_6 S_7 S_8 S_9 c1 c3 hr_10 hr_11 hr_12 hr_13) (argsL := [(.ref a2), (.int (0 : Int32)), (.int (4 : Int32)), .null]) (rest := []) rfl (lenOf pd_7 rfl) rfl (by rw [hml]; rfl) (W := 0) (Nat.le_of_eq rfl) (hb hby d2_6) (by decide) (by decide) (by decide) (by decide) rfl ?_
      rintro T4 h4 _ L4 X4 e4 ⟨r_4, kb_4, rfl, M4, K4, p4_0, p4_1, p4_2, p4_3, p4_4⟩
      have N4 := Fr.app N0 M4
      have fr_r_4 : n0 ≤ r_4 := Nat.le_trans (own_le O0) p4_0
      have sn_r_4 : h0.size ≤ r_4 := Nat.le_trans (Nat.le_refl _) p4_0
      have ne_a1_r_4 : a1 ≠ r_4 := own_ltg p4_0 F_2.lt
      have ne_a2_r_4 : a2 ≠ r_4 := own_ltg p4_0 A_4.lt
      refine go_ret0 X4 hx hret hlk e4 (hb hby d2_9) (by decide) (by decide) ?_
      exact ⟨(by first | rfl | simp [c1, c3] | simp_all), N4, ((Keep.refl h0 [a1]).trans K4 (allS (P := fun x => x ∈ [a1] ∨ h0.size ≤ x) (Or.inl (List.mem_of_getElem? (i := 0) rfl)) all0)), ⟨_, _, p4_1, p4_3, Or.inr ⟨p4_2, p4_4⟩⟩, p4_1⟩
    · by_cases c5 : (255 : Int32) < x2
      · refine go_aload_n (q := 1) X0 hx (hb hby d2_0) (v := (.ref a1)) rfl rfl rfl ?_
        refine go_aload_n (q := 2) X0 hx (hb hby d2_1) (v := (.ref a2)) rfl rfl rfl ?_
        refine go_iconst (q := 3) X0 hx (hb hby d2_2) (v := (0 : Int32)) (by decide) rfl ?_
        refine go_aload_n (q := 4) X0 hx (hb hby d2_3) (v := (.ref a2)) rfl rfl rfl ?_
        refine go_alen (q := 5) X0 hx hZ e0 A_4 (hb hby d2_4) rfl ?_
        refine go_aconst_null (q := 6) X0 hx (hb hby d2_5)  rfl ?_
        refine go_special (q := 9) X0 hx hZ hown (y := (⟨"java/lang/String", "<init>", "([CIILjava/lang/Void;)V"⟩ : MethodName)) (a := a1) rfl (w12 hw) (w13 hw) (w8 hw) (w15 hw) (by decide) e0 (b3_3 l Z a0 hw a1 a2 u1 u2 kc dc zc x0 x1 x2 x3 h0 n0 O0 E_0 F_1 F_2 g_3 A_4 S_5 hr_6 S_7 S_8 S_9 c1 c3 c5 hr_10 hr_11 hr_12 hr_13) (argsL := [(.ref a2), (.int (0 : Int32)), (.int (4 : Int32)), .null]) (rest := []) rfl (lenOf pd_7 rfl) rfl (by rw [hml]; rfl) (W := 0) (Nat.le_of_eq rfl) (hb hby d2_6) (by decide) (by decide) (by decide) (by decide) rfl ?_
        rintro T6 h6 _ L6 X6 e6 ⟨r_6, kb_6, rfl, M6, K6, p6_0, p6_1, p6_2, p6_3, p6_4⟩
        have N6 := Fr.app N0 M6
        have fr_r_6 : n0 ≤ r_6 := Nat.le_trans (own_le O0) p6_0
        have sn_r_6 : h0.size ≤ r_6 := Nat.le_trans (Nat.le_refl _) p6_0
        have ne_a1_r_6 : a1 ≠ r_6 := own_ltg p6_0 F_2.lt
        have ne_a2_r_6 : a2 ≠ r_6 := own_ltg p6_0 A_4.lt
        refine go_ret0 X6 hx hret hlk e6 (hb hby d2_9) (by decide) (by decide) ?_
        exact ⟨(by first | rfl | simp [c1, c3, c5] | simp_all), N6, ((Keep.refl h0 [a1]).trans K6 (allS (P := fun x => x ∈ [a1] ∨ h0.size ≤ x) (Or.inl (List.mem_of_getElem? (i := 0) rfl)) all0)), ⟨_, _, p6_1, p6_3, Or.inr ⟨p6_2, p6_4⟩⟩, p6_1⟩
      · by_cases c7 : (255 : Int32) < x3
        · refine go_aload_n (q := 1) X0 hx (hb hby d2_0) (v := (.ref a1)) rfl rfl rfl ?_
          refine go_aload_n (q := 2) X0 hx (hb hby d2_1) (v := (.ref a2)) rfl rfl rfl ?_
          refine go_iconst (q := 3) X0 hx (hb hby d2_2) (v := (0 : Int32)) (by decide) rfl ?_
          refine go_aload_n (q := 4) X0 hx (hb hby d2_3) (v := (.ref a2)) rfl rfl rfl ?_
          refine go_alen (q := 5) X0 hx hZ e0 A_4 (hb hby d2_4) rfl ?_
          refine go_aconst_null (q := 6) X0 hx (hb hby d2_5)  rfl ?_
          refine go_special (q := 9) X0 hx hZ hown (y := (⟨"java/lang/String", "<init>", "([CIILjava/lang/Void;)V"⟩ : MethodName)) (a := a1) rfl (w12 hw) (w13 hw) (w8 hw) (w15 hw) (by decide) e0 (b3_4 l Z a0 hw a1 a2 u1 u2 kc dc zc x0 x1 x2 x3 h0 n0 O0 E_0 F_1 F_2 g_3 A_4 S_5 hr_6 S_7 S_8 S_9 c1 c3 c5 c7 hr_10 hr_11 hr_12 hr_13) (argsL := [(.ref a2), (.int (0 : Int32)), (.int (4 : Int32)), .null]) (rest := []) rfl (lenOf pd_7 rfl) rfl (by rw [hml]; rfl) (W := 0) (Nat.le_of_eq rfl) (hb hby d2_6) (by decide) (by decide) (by decide) (by decide) rfl ?_
          rintro T8 h8 _ L8 X8 e8 ⟨r_8, kb_8, rfl, M8, K8, p8_0, p8_1, p8_2, p8_3, p8_4⟩
          have N8 := Fr.app N0 M8
          have fr_r_8 : n0 ≤ r_8 := Nat.le_trans (own_le O0) p8_0
          have sn_r_8 : h0.size ≤ r_8 := Nat.le_trans (Nat.le_refl _) p8_0
          have ne_a1_r_8 : a1 ≠ r_8 := own_ltg p8_0 F_2.lt
          have ne_a2_r_8 : a2 ≠ r_8 := own_ltg p8_0 A_4.lt
          refine go_ret0 X8 hx hret hlk e8 (hb hby d2_9) (by decide) (by decide) ?_
          exact ⟨(by first | rfl | simp [c1, c3, c5, c7] | simp_all), N8, ((Keep.refl h0 [a1]).trans K8 (allS (P := fun x => x ∈ [a1] ∨ h0.size ≤ x) (Or.inl (List.mem_of_getElem? (i := 0) rfl)) all0)), ⟨_, _, p8_1, p8_3, Or.inr ⟨p8_2, p8_4⟩⟩, p8_1⟩
        · refine go_aload_n (q := 1) X0 hx (hb hby d2_0) (v := (.ref a1)) rfl rfl rfl ?_
          refine go_aload_n (q := 2) X0 hx (hb hby d2_1) (v := (.ref a2)) rfl rfl rfl ?_
          refine go_iconst (q := 3) X0 hx (hb hby d2_2) (v := (0 : Int32)) (by decide) rfl ?_
          refine go_aload_n (q := 4) X0 hx (hb hby d2_3) (v := (.ref a2)) rfl rfl rfl ?_
          refine go_alen (q := 5) X0 hx hZ e0 A_4 (hb hby d2_4) rfl ?_
          refine go_aconst_null (q := 6) X0 hx (hb hby d2_5)  rfl ?_
          refine go_special (q := 9) X0 hx hZ hown (y := (⟨"java/lang/String", "<init>", "([CIILjava/lang/Void;)V"⟩ : MethodName)) (a := a1) rfl (w12 hw) (w13 hw) (w8 hw) (w15 hw) (by decide) e0 (b3 l Z a0 hw a1 a2 u1 u2 kc dc zc x0 x1 x2 x3 h0 n0 O0 E_0 F_1 F_2 g_3 A_4 S_5 hr_6 c1 c3 c5 c7) (argsL := [(.ref a2), (.int (0 : Int32)), (.int (4 : Int32)), .null]) (rest := []) rfl (lenOf pd_7 rfl) rfl (by rw [hml]; rfl) (W := 0) (Nat.le_of_eq rfl) (hb hby d2_6) (by decide) (by decide) (by decide) (by decide) rfl ?_
          rintro T9 h9 _ L9 X9 e9 ⟨r_9, kb_9, rfl, M9, K9, p9_0, p9_1, p9_2, p9_3, p9_4⟩
          have N9 := Fr.app N0 M9
          have fr_r_9 : n0 ≤ r_9 := Nat.le_trans (own_le O0) p9_0
          have sn_r_9 : h0.size ≤ r_9 := Nat.le_trans (Nat.le_refl _) p9_0
          have ne_a1_r_9 : a1 ≠ r_9 := own_ltg p9_0 F_2.lt
          have ne_a2_r_9 : a2 ≠ r_9 := own_ltg p9_0 A_4.lt
          refine go_ret0 X9 hx hret hlk e9 (hb hby d2_9) (by decide) (by decide) ?_
          exact ⟨(by first | rfl | simp [c1, c3, c5, c7] | simp_all), N9, ((Keep.refl h0 [a1]).trans K9 (allS (P := fun x => x ∈ [a1] ∨ h0.size ≤ x) (Or.inl (List.mem_of_getElem? (i := 0) rfl)) all0)), ⟨_, _, p9_1, p9_3, Or.inl ⟨p9_2, p9_4, c1, c3, c5, c7⟩⟩, p9_1⟩
set_option maxRecDepth 65536 in
set_option maxHeartbeats 40000000 in
theorem b16 (l : Launch) (Z : State) (a0 : Array Value) (hw : ∀ d ∈ tables_1, d.before a0 Z = true) (a1 : Addr) (zc : Int32) (h0 : Heap) (n0 : Nat) (O0 : Old Z n0 h0) (F_0 : Fld Z h0 a1 "java/lang/String" "coder" "B" (.int (0 : Int32))) (S_1 : Sta Z Z.heap "java/lang/String" "COMPACT_STRINGS" "Z" (.int zc)) (hr_2 : (¬ zc = 0)) :
    Con l Z (⟨"java/lang/String", "isLatin1", "()Z"⟩ : MethodName) jdk_42_method_154_code 1 (some .boolean) ({ frames := 0, cells := 0, slots := 0, locals := 0 } : Room) #[(.ref a1)] h0 (fun v h L => v = some (.int (1 : Int32)) ∧ Fr n0 L ∧ Keep h0 h []) := by
  refine Con.of (plainFor_of_name pn_1) ?_
  intro p e s m below meth c s₁ hx hby hml hZ hown hnm hret hlk X0 e0
  have N0 := Fr.nil n0
  refine go_cast (g' := mkF m 0 #[.val (.ref a1)] []) ?_ (by first | (simp [entryFrame, mkF, argsToLocals, Value.category]; done) | rfl)
  refine go_getS (q := 3) (host := "") X0 hx hZ hown (Or.inl (w19 hw)) Via.refl e0 (Sta.ext O0.2 S_1) (hb hby d16_0) rfl ?_
  intro T1 X1 e1
  refine go_ifN (q := 6) X1 hx (hb hby d16_3) (XT.i0_eq_f hr_2) rfl ?_
  refine go_aload_n (q := 7) X1 hx (hb hby d16_6) (v := (.ref a1)) rfl rfl rfl ?_
  refine go_getF (q := 10) (host := "") X1 hx hZ hown (Or.inl (w31 hw)) Via.refl e1 F_0 (hb hby d16_7) rfl ?_
  intro T2 X2 e2
  refine go_ifN (q := 13) X2 hx (hb hby d16_10) (XT.i0_ne_f (by decide)) rfl ?_
  refine go_iconst (q := 14) X2 hx (hb hby d16_13) (v := (1 : Int32)) (by decide) rfl ?_
  refine go_goto (q := 18) X2 hx (hb hby d16_14) (by decide) (by decide) ?_
  refine go_retI X2 hx hret hlk e2 (hb hby d16_18) (by simp) (by decide) (by decide) (by decide) ?_
  exact ⟨rfl, N0, (Keep.refl h0 [])⟩
set_option maxRecDepth 65536 in
set_option maxHeartbeats 40000000 in
theorem b16_1 (l : Launch) (Z : State) (a0 : Array Value) (hw : ∀ d ∈ tables_1, d.before a0 Z = true) (a1 : Addr) (zc : Int32) (h0 : Heap) (n0 : Nat) (O0 : Old Z n0 h0) (F_0 : Fld Z h0 a1 "java/lang/String" "coder" "B" (.int (1 : Int32))) (S_1 : Sta Z Z.heap "java/lang/String" "COMPACT_STRINGS" "Z" (.int zc)) (hr_2 : (¬ zc = 0)) :
    Con l Z (⟨"java/lang/String", "isLatin1", "()Z"⟩ : MethodName) jdk_42_method_154_code 1 (some .boolean) ({ frames := 0, cells := 0, slots := 0, locals := 0 } : Room) #[(.ref a1)] h0 (fun v h L => v = some (.int (0 : Int32)) ∧ Fr n0 L ∧ Keep h0 h []) := by
  refine Con.of (plainFor_of_name pn_1) ?_
  intro p e s m below meth c s₁ hx hby hml hZ hown hnm hret hlk X0 e0
  have N0 := Fr.nil n0
  refine go_cast (g' := mkF m 0 #[.val (.ref a1)] []) ?_ (by first | (simp [entryFrame, mkF, argsToLocals, Value.category]; done) | rfl)
  refine go_getS (q := 3) (host := "") X0 hx hZ hown (Or.inl (w19 hw)) Via.refl e0 (Sta.ext O0.2 S_1) (hb hby d16_0) rfl ?_
  intro T1 X1 e1
  refine go_ifN (q := 6) X1 hx (hb hby d16_3) (XT.i0_eq_f hr_2) rfl ?_
  refine go_aload_n (q := 7) X1 hx (hb hby d16_6) (v := (.ref a1)) rfl rfl rfl ?_
  refine go_getF (q := 10) (host := "") X1 hx hZ hown (Or.inl (w31 hw)) Via.refl e1 F_0 (hb hby d16_7) rfl ?_
  intro T2 X2 e2
  refine go_ifY (q := 17) X2 hx (hb hby d16_10) (XT.i0_ne_t (by decide)) (by decide) (by decide) ?_
  refine go_iconst (q := 18) X2 hx (hb hby d16_17) (v := (0 : Int32)) (by decide) rfl ?_
  refine go_retI X2 hx hret hlk e2 (hb hby d16_18) (by simp) (by decide) (by decide) (by decide) ?_
  exact ⟨rfl, N0, (Keep.refl h0 [])⟩
set_option maxRecDepth 65536 in
set_option maxHeartbeats 40000000 in
theorem b22 (l : Launch) (Z : State) (a0 : Array Value) (hw : ∀ d ∈ tables_1, d.before a0 Z = true) (a1 : Addr) (kb : ClassId) (vs : List Value) (dv : Value) (h0 : Heap) (n0 : Nat) (O0 : Old Z n0 h0) (A_0 : Arv Z h0 a1 kb .byte (8 : Int32) vs dv) :
    Con l Z (⟨"java/lang/StringUTF16", "length", "([B)I"⟩ : MethodName) jdk_52_method_6_code 1 (some .int) ({ frames := 0, cells := 0, slots := 0, locals := 0 } : Room) #[(.ref a1)] h0 (fun v h L => v = some (.int (4 : Int32)) ∧ Fr n0 L ∧ Keep h0 h []) := by
  refine Con.of (plainFor_of_name pn_0) ?_
  intro p e s m below meth c s₁ hx hby hml hZ hown hnm hret hlk X0 e0
  have N0 := Fr.nil n0
  refine go_cast (g' := mkF m 0 #[.val (.ref a1)] []) ?_ (by first | (simp [entryFrame, mkF, argsToLocals, Value.category]; done) | rfl)
  refine go_aload_n (q := 1) X0 hx (hb hby d22_0) (v := (.ref a1)) rfl rfl rfl ?_
  refine go_alen (q := 2) X0 hx hZ e0 A_0 (hb hby d22_1) rfl ?_
  refine go_iconst (q := 3) X0 hx (hb hby d22_2) (v := (1 : Int32)) (by decide) rfl ?_
  refine go_ishr (q := 4) X0 hx (hb hby d22_3) (v := (4 : Int32)) (by decide) rfl ?_
  refine go_retI X0 hx hret hlk e0 (hb hby d22_4) (by simp) rfl (by decide) (by decide) ?_
  exact ⟨rfl, N0, (Keep.refl h0 [])⟩
set_option maxRecDepth 65536 in
set_option maxHeartbeats 40000000 in
theorem b19 (l : Launch) (Z : State) (a0 : Array Value) (hw : ∀ d ∈ tables_1, d.before a0 Z = true) (sf : Value) (rsf : sf.isRef = true) (h0 : Heap) (n0 : Nat) (O0 : Old Z n0 h0)  :
    Con l Z (⟨"jdk/internal/util/Preconditions", "checkIndex", "(IILjava/util/function/BiFunction;)I"⟩ : MethodName) jdk_41_method_11_code 3 (some .int) ({ frames := 0, cells := 0, slots := 0, locals := 0 } : Room) #[(.int (0 : Int32)), (.int (4 : Int32)), sf] h0 (fun v h L => v = some (.int (0 : Int32)) ∧ Fr n0 L ∧ Keep h0 h []) := by
  refine Con.of (plainFor_of_name pn_2) ?_
  intro p e s m below meth c s₁ hx hby hml hZ hown hnm hret hlk X0 e0
  have N0 := Fr.nil n0
  refine go_cast (g' := mkF m 0 #[.val (.int (0 : Int32)), .val (.int (4 : Int32)), .val sf] []) ?_ (by first | (simp [entryFrame, mkF, argsToLocals, own_cI, own_cR, own_cN, own_cJ, own_cD, XT.cat1 rsf]; done) | rfl)
  refine go_iload_n (q := 1) X0 hx (hb hby d19_0) (v := (0 : Int32)) rfl rfl ?_
  refine go_ifN (q := 4) X0 hx (hb hby d19_1) (XT.i0_lt_f (by decide)) rfl ?_
  refine go_iload_n (q := 5) X0 hx (hb hby d19_4) (v := (0 : Int32)) rfl rfl ?_
  refine go_iload_n (q := 6) X0 hx (hb hby d19_5) (v := (4 : Int32)) rfl rfl ?_
  refine go_icmpY (q := 16) X0 hx (hb hby d19_6) (XT.ii_lt_t (by decide)) (by decide) (by decide) ?_
  refine go_iload_n (q := 17) X0 hx (hb hby d19_16) (v := (0 : Int32)) rfl rfl ?_
  refine go_retI X0 hx hret hlk e0 (hb hby d19_17) (by simp) rfl (by decide) (by decide) ?_
  exact ⟨rfl, N0, (Keep.refl h0 [])⟩
set_option maxRecDepth 65536 in
set_option maxHeartbeats 40000000 in
theorem b18 (l : Launch) (Z : State) (a0 : Array Value) (hw : ∀ d ∈ tables_1, d.before a0 Z = true) (sf : Value) (rsf : sf.isRef = true) (h0 : Heap) (n0 : Nat) (O0 : Old Z n0 h0) (S_0 : Sta Z Z.heap "jdk/internal/util/Preconditions" "SIOOBE_FORMATTER" "Ljava/util/function/BiFunction;" sf) :
    Con l Z (⟨"java/lang/String", "checkIndex", "(II)V"⟩ : MethodName) jdk_42_method_155_code 2 none ({ frames := 1, cells := 0, slots := 0, locals := 14 } : Room) #[(.int (0 : Int32)), (.int (4 : Int32))] h0 (fun v h L => v = none ∧ Fr n0 L ∧ Keep h0 h []) := by
  refine Con.of (plainFor_of_name pn_1) ?_
  intro p e s m below meth c s₁ hx hby hml hZ hown hnm hret hlk X0 e0
  have N0 := Fr.nil n0
  refine go_cast (g' := mkF m 0 #[.val (.int (0 : Int32)), .val (.int (4 : Int32))] []) ?_ (by first | (simp [entryFrame, mkF, argsToLocals, Value.category]; done) | rfl)
  refine go_iload_n (q := 1) X0 hx (hb hby d18_0) (v := (0 : Int32)) rfl rfl ?_
  refine go_iload_n (q := 2) X0 hx (hb hby d18_1) (v := (4 : Int32)) rfl rfl ?_
  refine go_getS (q := 5) (host := "") X0 hx hZ hown (Or.inl (w78 hw)) Via.refl e0 (Sta.ext O0.2 S_0) (hb hby d18_2) rfl ?_
  intro T1 X1 e1
  refine go_static (q := 8) X1 hx hZ hown (y := (⟨"jdk/internal/util/Preconditions", "checkIndex", "(IILjava/util/function/BiFunction;)I"⟩ : MethodName)) (w80 hw) (w81 hw) (w79 hw) (w82 hw) (by decide) e1 (b19 l Z a0 hw sf rsf h0 n0 O0 ) (argsL := [(.int (0 : Int32)), (.int (4 : Int32)), sf]) (rest := []) rfl (lenOf pd_8 rfl) rfl (by rw [hml]; rfl) (W := 0) (Nat.le_of_eq rfl) (hb hby d18_5) (by decide) (by decide) (by decide) (by decide) rfl ?_
  rintro T2 h2 _ L2 X2 e2 ⟨rfl, M2, K2⟩
  have N2 := Fr.app N0 M2
  refine go_pop (q := 9) X2 hx (hb hby d18_8) rfl rfl ?_
  refine go_ret0 X2 hx hret hlk e2 (hb hby d18_9) (by decide) (by decide) ?_
  exact ⟨rfl, N2, ((Keep.refl h0 []).trans K2 all0)⟩
set_option maxRecDepth 65536 in
set_option maxHeartbeats 40000000 in
theorem b21 (l : Launch) (Z : State) (a0 : Array Value) (hw : ∀ d ∈ tables_1, d.before a0 Z = true) (a1 : Addr) (kb : ClassId) (vs : List Value) (dv : Value) (sf : Value) (rsf : sf.isRef = true) (h0 : Heap) (n0 : Nat) (O0 : Old Z n0 h0) (A_0 : Arv Z h0 a1 kb .byte (8 : Int32) vs dv) (S_1 : Sta Z Z.heap "jdk/internal/util/Preconditions" "SIOOBE_FORMATTER" "Ljava/util/function/BiFunction;" sf) :
    Con l Z (⟨"java/lang/StringUTF16", "checkIndex", "(I[B)V"⟩ : MethodName) jdk_52_method_91_code 2 none ({ frames := 2, cells := 0, slots := 0, locals := 27 } : Room) #[(.int (0 : Int32)), (.ref a1)] h0 (fun v h L => v = none ∧ Fr n0 L ∧ Keep h0 h []) := by
  refine Con.of (plainFor_of_name pn_0) ?_
  intro p e s m below meth c s₁ hx hby hml hZ hown hnm hret hlk X0 e0
  have N0 := Fr.nil n0
  refine go_cast (g' := mkF m 0 #[.val (.int (0 : Int32)), .val (.ref a1)] []) ?_ (by first | (simp [entryFrame, mkF, argsToLocals, Value.category]; done) | rfl)
  refine go_iload_n (q := 1) X0 hx (hb hby d21_0) (v := (0 : Int32)) rfl rfl ?_
  refine go_aload_n (q := 2) X0 hx (hb hby d21_1) (v := (.ref a1)) rfl rfl rfl ?_
  refine go_static (q := 5) X0 hx hZ hown (y := (⟨"java/lang/StringUTF16", "length", "([B)I"⟩ : MethodName)) (w89 hw) (w90 hw) (w22 hw) (w91 hw) (by decide) e0 (b22 l Z a0 hw a1 kb vs dv h0 n0 O0 A_0) (argsL := [(.ref a1)]) (rest := [(.int (0 : Int32))]) rfl (lenOf pd_9 rfl) rfl (by rw [hml]; rfl) (W := 1) (Nat.le_of_eq rfl) (hb hby d21_2) (by decide) (by decide) (by decide) (by decide) rfl ?_
  rintro T1 h1 _ L1 X1 e1 ⟨rfl, M1, K1⟩
  have N1 := Fr.app N0 M1
  have O2 : Old Z n0 h1 := (O0.keep K1 all0)
  refine go_static (q := 8) X1 hx hZ hown (y := (⟨"java/lang/String", "checkIndex", "(II)V"⟩ : MethodName)) (w92 hw) (w76 hw) (w8 hw) (w77 hw) (by decide) e1 (b18 l Z a0 hw sf rsf h1 n0 O2 S_1) (argsL := [(.int (0 : Int32)), (.int (4 : Int32))]) (rest := []) rfl (lenOf pd_10 rfl) rfl (by rw [hml]; rfl) (W := 0) (Nat.le_of_eq rfl) (hb hby d21_5) (by decide) (by decide) (by decide) (by decide) rfl ?_
  rintro T3 h3 _ L3 X3 e3 ⟨rfl, M3, K3⟩
  have N3 := Fr.app N1 M3
  refine go_ret0 X3 hx hret hlk e3 (hb hby d21_8) (by decide) (by decide) ?_
  exact ⟨rfl, N3, (((Keep.refl h0 []).trans K1 all0).trans K3 all0)⟩
set_option maxRecDepth 65536 in
set_option maxHeartbeats 40000000 in
theorem b17 (l : Launch) (Z : State) (a0 : Array Value) (hw : ∀ d ∈ tables_1, d.before a0 Z = true) (a1 : Addr) (kb : ClassId) (sf : Value) (rsf : sf.isRef = true) (x0 : Int32) (x1 : Int32) (x2 : Int32) (x3 : Int32) (h0 : Heap) (n0 : Nat) (O0 : Old Z n0 h0) (A_0 : Arv Z h0 a1 kb .byte (4 : Int32) [(.int x0.toInt8.toInt32), (.int x1.toInt8.toInt32), (.int x2.toInt8.toInt32), (.int x3.toInt8.toInt32)] (.int (0 : Int32))) (S_1 : Sta Z Z.heap "jdk/internal/util/Preconditions" "SIOOBE_FORMATTER" "Ljava/util/function/BiFunction;" sf) (hr_2 : (0 ≤ x0.toInt ∧ x0.toInt ≤ 65535)) (hr_3 : (¬ (255 : Int32) < x0)) :
    Con l Z (⟨"java/lang/StringLatin1", "charAt", "([BI)C"⟩ : MethodName) jdk_43_method_2_code 2 (some .char) ({ frames := 2, cells := 0, slots := 0, locals := 27 } : Room) #[(.ref a1), (.int (0 : Int32))] h0 (fun v h L => v = some (.int x0) ∧ Fr n0 L ∧ Keep h0 h []) := by
  refine Con.of (plainFor_of_name pn_3) ?_
  intro p e s m below meth c s₁ hx hby hml hZ hown hnm hret hlk X0 e0
  have N0 := Fr.nil n0
  refine go_cast (g' := mkF m 0 #[.val (.ref a1), .val (.int (0 : Int32))] []) ?_ (by first | (simp [entryFrame, mkF, argsToLocals, Value.category]; done) | rfl)
  refine go_iload_n (q := 1) X0 hx (hb hby d17_0) (v := (0 : Int32)) rfl rfl ?_
  refine go_aload_n (q := 2) X0 hx (hb hby d17_1) (v := (.ref a1)) rfl rfl rfl ?_
  refine go_alen (q := 3) X0 hx hZ e0 A_0 (hb hby d17_2) rfl ?_
  refine go_static (q := 6) X0 hx hZ hown (y := (⟨"java/lang/String", "checkIndex", "(II)V"⟩ : MethodName)) (w75 hw) (w76 hw) (w8 hw) (w77 hw) (by decide) e0 (b18 l Z a0 hw sf rsf h0 n0 O0 S_1) (argsL := [(.int (0 : Int32)), (.int (4 : Int32))]) (rest := []) rfl (lenOf pd_10 rfl) rfl (by rw [hml]; rfl) (W := 0) (Nat.le_of_eq rfl) (hb hby d17_3) (by decide) (by decide) (by decide) (by decide) rfl ?_
  rintro T1 h1 _ L1 X1 e1 ⟨rfl, M1, K1⟩
  have N1 := Fr.app N0 M1
  refine go_aload_n (q := 7) X1 hx (hb hby d17_6) (v := (.ref a1)) rfl rfl rfl ?_
  refine go_iload_n (q := 8) X1 hx (hb hby d17_7) (v := (0 : Int32)) rfl rfl ?_
  have f2 : Arv Z h1 a1 kb .byte (4 : Int32) [(.int x0.toInt8.toInt32), (.int x1.toInt8.toInt32), (.int x2.toInt8.toInt32), (.int x3.toInt8.toInt32)] (.int (0 : Int32)) := (A_0.keep K1 nin0)
  refine go_baload (q := 9) (j := (0 : Int32)) (v := (.int x0.toInt8.toInt32)) X1 hx hZ e1 f2 (by decide) rfl (hb hby d17_8) rfl ?_
  refine go_sipush (q := 12) X1 hx (hb hby d17_9) (v := (255 : Int32)) (by decide) rfl ?_
  refine go_iand (q := 13) X1 hx (hb hby d17_12) (v := (x0.toInt8.toInt32 &&& (255 : Int32))) rfl rfl ?_
  refine go_i2c (q := 14) (v := x0) X1 hx (hb hby d17_13) (own_l8 hr_2 hr_3) rfl ?_
  refine go_retI X1 hx hret hlk e1 (hb hby d17_14) (by simp) (own_chr hr_2).1 (by decide) (by decide) ?_
  exact ⟨rfl, N1, ((Keep.refl h0 []).trans K1 all0)⟩
set_option maxRecDepth 65536 in
set_option maxHeartbeats 40000000 in
theorem b20 (l : Launch) (Z : State) (a0 : Array Value) (hw : ∀ d ∈ tables_1, d.before a0 Z = true) (a1 : Addr) (kb : ClassId) (sf : Value) (rsf : sf.isRef = true) (x0 : Int32) (x1 : Int32) (x2 : Int32) (x3 : Int32) (h0 : Heap) (n0 : Nat) (O0 : Old Z n0 h0) (A_0 : Arv Z h0 a1 kb .byte (8 : Int32) [(.int x0.toInt8.toInt32), (.int (x0 >>> ((8 : Int32) &&& 31)).toInt8.toInt32), (.int x1.toInt8.toInt32), (.int (x1 >>> ((8 : Int32) &&& 31)).toInt8.toInt32), (.int x2.toInt8.toInt32), (.int (x2 >>> ((8 : Int32) &&& 31)).toInt8.toInt32), (.int x3.toInt8.toInt32), (.int (x3 >>> ((8 : Int32) &&& 31)).toInt8.toInt32)] (.int (0 : Int32))) (S_1 : Sta Z Z.heap "jdk/internal/util/Preconditions" "SIOOBE_FORMATTER" "Ljava/util/function/BiFunction;" sf) (S_2 : Sta Z Z.heap "java/lang/StringUTF16" "$assertionsDisabled" "Z" (.int (1 : Int32))) (S_3 : Sta Z Z.heap "java/lang/StringUTF16" "HI_BYTE_SHIFT" "I" (.int (0 : Int32))) (S_4 : Sta Z Z.heap "java/lang/StringUTF16" "LO_BYTE_SHIFT" "I" (.int (8 : Int32))) (hr_5 : (0 ≤ x0.toInt ∧ x0.toInt ≤ 65535)) :
    Con l Z (⟨"java/lang/StringUTF16", "charAt", "([BI)C"⟩ : MethodName) jdk_52_method_83_code 2 (some .char) ({ frames := 3, cells := 0, slots := 0, locals := 40 } : Room) #[(.ref a1), (.int (0 : Int32))] h0 (fun v h L => v = some (.int x0) ∧ Fr n0 L ∧ Keep h0 h []) := by
  refine Con.of (plainFor_of_name pn_0) ?_
  intro p e s m below meth c s₁ hx hby hml hZ hown hnm hret hlk X0 e0
  have N0 := Fr.nil n0
  refine go_cast (g' := mkF m 0 #[.val (.ref a1), .val (.int (0 : Int32))] []) ?_ (by first | (simp [entryFrame, mkF, argsToLocals, Value.category]; done) | rfl)
  refine go_iload_n (q := 1) X0 hx (hb hby d20_0) (v := (0 : Int32)) rfl rfl ?_
  refine go_aload_n (q := 2) X0 hx (hb hby d20_1) (v := (.ref a1)) rfl rfl rfl ?_
  refine go_static (q := 5) X0 hx hZ hown (y := (⟨"java/lang/StringUTF16", "checkIndex", "(I[B)V"⟩ : MethodName)) (w86 hw) (w87 hw) (w22 hw) (w88 hw) (by decide) e0 (b21 l Z a0 hw a1 kb [(.int x0.toInt8.toInt32), (.int (x0 >>> ((8 : Int32) &&& 31)).toInt8.toInt32), (.int x1.toInt8.toInt32), (.int (x1 >>> ((8 : Int32) &&& 31)).toInt8.toInt32), (.int x2.toInt8.toInt32), (.int (x2 >>> ((8 : Int32) &&& 31)).toInt8.toInt32), (.int x3.toInt8.toInt32), (.int (x3 >>> ((8 : Int32) &&& 31)).toInt8.toInt32)] (.int (0 : Int32)) sf rsf h0 n0 O0 A_0 S_1) (argsL := [(.int (0 : Int32)), (.ref a1)]) (rest := []) rfl (lenOf pd_11 rfl) rfl (by rw [hml]; rfl) (W := 0) (Nat.le_of_eq rfl) (hb hby d20_2) (by decide) (by decide) (by decide) (by decide) rfl ?_
  rintro T1 h1 _ L1 X1 e1 ⟨rfl, M1, K1⟩
  have N1 := Fr.app N0 M1
  refine go_aload_n (q := 6) X1 hx (hb hby d20_5) (v := (.ref a1)) rfl rfl rfl ?_
  refine go_iload_n (q := 7) X1 hx (hb hby d20_6) (v := (0 : Int32)) rfl rfl ?_
  have f2 : Arv Z h1 a1 kb .byte (8 : Int32) [(.int x0.toInt8.toInt32), (.int (x0 >>> ((8 : Int32) &&& 31)).toInt8.toInt32), (.int x1.toInt8.toInt32), (.int (x1 >>> ((8 : Int32) &&& 31)).toInt8.toInt32), (.int x2.toInt8.toInt32), (.int (x2 >>> ((8 : Int32) &&& 31)).toInt8.toInt32), (.int x3.toInt8.toInt32), (.int (x3 >>> ((8 : Int32) &&& 31)).toInt8.toInt32)] (.int (0 : Int32)) := (A_0.keep K1 nin0)
  have O3 : Old Z n0 h1 := (O0.keep K1 all0)
  refine go_static (q := 10) X1 hx hZ hown (y := (⟨"java/lang/StringUTF16", "getChar", "([BI)C"⟩ : MethodName)) (w55 hw) (w56 hw) (w22 hw) (w57 hw) (by decide) e1 (b13 l Z a0 hw a1 kb x0 x1 x2 x3 h1 n0 O3 f2 S_2 S_3 S_4 hr_5) (argsL := [(.ref a1), (.int (0 : Int32))]) (rest := []) rfl (lenOf pd_5 rfl) rfl (by rw [hml]; rfl) (W := 0) (Nat.le_of_eq rfl) (hb hby d20_7) (by decide) (by decide) (by decide) (by decide) rfl ?_
  rintro T4 h4 _ L4 X4 e4 ⟨rfl, M4, K4⟩
  have N4 := Fr.app N1 M4
  refine go_retI X4 hx hret hlk e4 (hb hby d20_10) (by simp) (own_chr hr_5).1 (by decide) (by decide) ?_
  exact ⟨rfl, N4, (((Keep.refl h0 []).trans K1 all0).trans K4 all0)⟩
set_option maxRecDepth 65536 in
set_option maxHeartbeats 40000000 in
theorem b15 (l : Launch) (Z : State) (a0 : Array Value) (hw : ∀ d ∈ tables_1, d.before a0 Z = true) (a1 : Addr) (zc : Int32) (sf : Value) (rsf : sf.isRef = true) (x0 : Int32) (x1 : Int32) (x2 : Int32) (x3 : Int32) (h0 : Heap) (n0 : Nat) (O0 : Old Z n0 h0) (P_0 : Str4 Z h0 a1 x0 x1 x2 x3) (S_1 : Sta Z Z.heap "java/lang/String" "COMPACT_STRINGS" "Z" (.int zc)) (hr_2 : (¬ zc = 0)) (S_3 : Sta Z Z.heap "jdk/internal/util/Preconditions" "SIOOBE_FORMATTER" "Ljava/util/function/BiFunction;" sf) (S_4 : Sta Z Z.heap "java/lang/StringUTF16" "$assertionsDisabled" "Z" (.int (1 : Int32))) (S_5 : Sta Z Z.heap "java/lang/StringUTF16" "HI_BYTE_SHIFT" "I" (.int (0 : Int32))) (S_6 : Sta Z Z.heap "java/lang/StringUTF16" "LO_BYTE_SHIFT" "I" (.int (8 : Int32))) (hr_7 : (0 ≤ x0.toInt ∧ x0.toInt ≤ 65535)) :
    Con l Z (⟨"java/lang/String", "charAt", "(I)C"⟩ : MethodName) jdk_42_method_56_code 2 (some .char) ({ frames := 4, cells := 0, slots := 0, locals := 53 } : Room) #[(.ref a1), (.int (0 : Int32))] h0 (fun v h L => v = some (.int x0) ∧ Fr n0 L ∧ Keep h0 h []) := by
  refine Con.of (plainFor_of_name pn_1) ?_
  intro p e s m below meth c s₁ hx hby hml hZ hown hnm hret hlk X0 e0
  have N0 := Fr.nil n0
  refine go_cast (g' := mkF m 0 #[.val (.ref a1), .val (.int (0 : Int32))] []) ?_ (by first | (simp [entryFrame, mkF, argsToLocals, Value.category]; done) | rfl)
  obtain ⟨b, kb, E, V, ⟨C0, A0, l0, l1, l2, l3⟩ | ⟨C0, A0⟩⟩ := P_0
  · refine go_aload_n (q := 1) X0 hx (hb hby d15_0) (v := (.ref a1)) rfl rfl rfl ?_
    refine go_virtual (q := 4) X0 hx hZ hown (y := (⟨"java/lang/String", "isLatin1", "()Z"⟩ : MethodName)) (z := (⟨"java/lang/String", "isLatin1", "()Z"⟩ : MethodName)) (a := a1) (w66 hw) (w67 hw) (notFace_of_selects (args := #[]) (mvT hZ (w69 hw))) (w69 hw) (w68 hw) (w8 hw) (w70 hw) (by decide) e0 E (b16 l Z a0 hw a1 zc h0 n0 O0 C0 S_1 hr_2) (argsL := []) (rest := []) rfl (lenOf pd_12 rfl) rfl (by rw [hml]; rfl) (W := 0) (Nat.le_of_eq rfl) (hb hby d15_1) (by decide) (by decide) (by decide) (by decide) rfl ?_
    rintro T1 h1 _ L1 X1 e1 ⟨rfl, M1, K1⟩
    have N1 := Fr.app N0 M1
    refine go_ifN (q := 7) X1 hx (hb hby d15_4) (XT.i0_eq_f (by decide)) rfl ?_
    refine go_aload_n (q := 8) X1 hx (hb hby d15_7) (v := (.ref a1)) rfl rfl rfl ?_
    have f2 : Fld Z h1 a1 "java/lang/String" "value" "[B" (.ref b) := (V.keep K1 nin0)
    refine go_getF (q := 11) (host := "") X1 hx hZ hown (Or.inl (w33 hw)) Via.refl e1 f2 (hb hby d15_8) rfl ?_
    intro T3 X3 e3
    refine go_iload_n (q := 12) X3 hx (hb hby d15_11) (v := (0 : Int32)) rfl rfl ?_
    have f4 : Arv Z h1 b kb .byte (4 : Int32) [(.int x0.toInt8.toInt32), (.int x1.toInt8.toInt32), (.int x2.toInt8.toInt32), (.int x3.toInt8.toInt32)] (.int (0 : Int32)) := (A0.keep K1 nin0)
    have O5 : Old Z n0 h1 := (O0.keep K1 all0)
    refine go_static (q := 15) X3 hx hZ hown (y := (⟨"java/lang/StringLatin1", "charAt", "([BI)C"⟩ : MethodName)) (w71 hw) (w72 hw) (w73 hw) (w74 hw) (by decide) e3 (b17 l Z a0 hw b kb sf rsf x0 x1 x2 x3 h1 n0 O5 f4 S_3 hr_7 l0) (argsL := [(.ref b), (.int (0 : Int32))]) (rest := []) rfl (lenOf pd_5 rfl) rfl (by rw [hml]; rfl) (W := 0) (Nat.le_of_eq rfl) (hb hby d15_12) (by decide) (by decide) (by decide) (by decide) rfl ?_
    rintro T6 h6 _ L6 X6 e6 ⟨rfl, M6, K6⟩
    have N6 := Fr.app N1 M6
    refine go_retI X6 hx hret hlk e6 (hb hby d15_15) (by simp) (own_chr hr_7).1 (by decide) (by decide) ?_
    exact ⟨rfl, N6, (((Keep.refl h0 []).trans K1 all0).trans K6 all0)⟩
  · refine go_aload_n (q := 1) X0 hx (hb hby d15_0) (v := (.ref a1)) rfl rfl rfl ?_
    refine go_virtual (q := 4) X0 hx hZ hown (y := (⟨"java/lang/String", "isLatin1", "()Z"⟩ : MethodName)) (z := (⟨"java/lang/String", "isLatin1", "()Z"⟩ : MethodName)) (a := a1) (w66 hw) (w67 hw) (notFace_of_selects (args := #[]) (mvT hZ (w69 hw))) (w69 hw) (w68 hw) (w8 hw) (w70 hw) (by decide) e0 E (b16_1 l Z a0 hw a1 zc h0 n0 O0 C0 S_1 hr_2) (argsL := []) (rest := []) rfl (lenOf pd_12 rfl) rfl (by rw [hml]; rfl) (W := 0) (Nat.le_of_eq rfl) (hb hby d15_1) (by decide) (by decide) (by decide) (by decide) rfl ?_
    rintro T7 h7 _ L7 X7 e7 ⟨rfl, M7, K7⟩
    have N7 := Fr.app N0 M7
    refine go_ifY (q := 16) X7 hx (hb hby d15_4) (XT.i0_eq_t (by decide)) (by decide) (by decide) ?_
    refine go_aload_n (q := 17) X7 hx (hb hby d15_16) (v := (.ref a1)) rfl rfl rfl ?_
    have f8 : Fld Z h7 a1 "java/lang/String" "value" "[B" (.ref b) := (V.keep K7 nin0)
    refine go_getF (q := 20) (host := "") X7 hx hZ hown (Or.inl (w33 hw)) Via.refl e7 f8 (hb hby d15_17) rfl ?_
    intro T9 X9 e9
    refine go_iload_n (q := 21) X9 hx (hb hby d15_20) (v := (0 : Int32)) rfl rfl ?_
    have f10 : Arv Z h7 b kb .byte (8 : Int32) [(.int x0.toInt8.toInt32), (.int (x0 >>> ((8 : Int32) &&& 31)).toInt8.toInt32), (.int x1.toInt8.toInt32), (.int (x1 >>> ((8 : Int32) &&& 31)).toInt8.toInt32), (.int x2.toInt8.toInt32), (.int (x2 >>> ((8 : Int32) &&& 31)).toInt8.toInt32), (.int x3.toInt8.toInt32), (.int (x3 >>> ((8 : Int32) &&& 31)).toInt8.toInt32)] (.int (0 : Int32)) := (A0.keep K7 nin0)
    have O11 : Old Z n0 h7 := (O0.keep K7 all0)
    refine go_static (q := 24) X9 hx hZ hown (y := (⟨"java/lang/StringUTF16", "charAt", "([BI)C"⟩ : MethodName)) (w83 hw) (w84 hw) (w22 hw) (w85 hw) (by decide) e9 (b20 l Z a0 hw b kb sf rsf x0 x1 x2 x3 h7 n0 O11 f10 S_3 S_4 S_5 S_6 hr_7) (argsL := [(.ref b), (.int (0 : Int32))]) (rest := []) rfl (lenOf pd_5 rfl) rfl (by rw [hml]; rfl) (W := 0) (Nat.le_of_eq rfl) (hb hby d15_21) (by decide) (by decide) (by decide) (by decide) rfl ?_
    rintro T12 h12 _ L12 X12 e12 ⟨rfl, M12, K12⟩
    have N12 := Fr.app N7 M12
    refine go_retI X12 hx hret hlk e12 (hb hby d15_24) (by simp) (own_chr hr_7).1 (by decide) (by decide) ?_
    exact ⟨rfl, N12, (((Keep.refl h0 []).trans K7 all0).trans K12 all0)⟩
set_option maxRecDepth 65536 in
set_option maxHeartbeats 40000000 in
theorem b19_1 (l : Launch) (Z : State) (a0 : Array Value) (hw : ∀ d ∈ tables_1, d.before a0 Z = true) (sf : Value) (rsf : sf.isRef = true) (h0 : Heap) (n0 : Nat) (O0 : Old Z n0 h0)  :
    Con l Z (⟨"jdk/internal/util/Preconditions", "checkIndex", "(IILjava/util/function/BiFunction;)I"⟩ : MethodName) jdk_41_method_11_code 3 (some .int) ({ frames := 0, cells := 0, slots := 0, locals := 0 } : Room) #[(.int (1 : Int32)), (.int (4 : Int32)), sf] h0 (fun v h L => v = some (.int (1 : Int32)) ∧ Fr n0 L ∧ Keep h0 h []) := by
  refine Con.of (plainFor_of_name pn_2) ?_
  intro p e s m below meth c s₁ hx hby hml hZ hown hnm hret hlk X0 e0
  have N0 := Fr.nil n0
  refine go_cast (g' := mkF m 0 #[.val (.int (1 : Int32)), .val (.int (4 : Int32)), .val sf] []) ?_ (by first | (simp [entryFrame, mkF, argsToLocals, own_cI, own_cR, own_cN, own_cJ, own_cD, XT.cat1 rsf]; done) | rfl)
  refine go_iload_n (q := 1) X0 hx (hb hby d19_0) (v := (1 : Int32)) rfl rfl ?_
  refine go_ifN (q := 4) X0 hx (hb hby d19_1) (XT.i0_lt_f (by decide)) rfl ?_
  refine go_iload_n (q := 5) X0 hx (hb hby d19_4) (v := (1 : Int32)) rfl rfl ?_
  refine go_iload_n (q := 6) X0 hx (hb hby d19_5) (v := (4 : Int32)) rfl rfl ?_
  refine go_icmpY (q := 16) X0 hx (hb hby d19_6) (XT.ii_lt_t (by decide)) (by decide) (by decide) ?_
  refine go_iload_n (q := 17) X0 hx (hb hby d19_16) (v := (1 : Int32)) rfl rfl ?_
  refine go_retI X0 hx hret hlk e0 (hb hby d19_17) (by simp) rfl (by decide) (by decide) ?_
  exact ⟨rfl, N0, (Keep.refl h0 [])⟩
set_option maxRecDepth 65536 in
set_option maxHeartbeats 40000000 in
theorem b18_1 (l : Launch) (Z : State) (a0 : Array Value) (hw : ∀ d ∈ tables_1, d.before a0 Z = true) (sf : Value) (rsf : sf.isRef = true) (h0 : Heap) (n0 : Nat) (O0 : Old Z n0 h0) (S_0 : Sta Z Z.heap "jdk/internal/util/Preconditions" "SIOOBE_FORMATTER" "Ljava/util/function/BiFunction;" sf) :
    Con l Z (⟨"java/lang/String", "checkIndex", "(II)V"⟩ : MethodName) jdk_42_method_155_code 2 none ({ frames := 1, cells := 0, slots := 0, locals := 14 } : Room) #[(.int (1 : Int32)), (.int (4 : Int32))] h0 (fun v h L => v = none ∧ Fr n0 L ∧ Keep h0 h []) := by
  refine Con.of (plainFor_of_name pn_1) ?_
  intro p e s m below meth c s₁ hx hby hml hZ hown hnm hret hlk X0 e0
  have N0 := Fr.nil n0
  refine go_cast (g' := mkF m 0 #[.val (.int (1 : Int32)), .val (.int (4 : Int32))] []) ?_ (by first | (simp [entryFrame, mkF, argsToLocals, Value.category]; done) | rfl)
  refine go_iload_n (q := 1) X0 hx (hb hby d18_0) (v := (1 : Int32)) rfl rfl ?_
  refine go_iload_n (q := 2) X0 hx (hb hby d18_1) (v := (4 : Int32)) rfl rfl ?_
  refine go_getS (q := 5) (host := "") X0 hx hZ hown (Or.inl (w78 hw)) Via.refl e0 (Sta.ext O0.2 S_0) (hb hby d18_2) rfl ?_
  intro T1 X1 e1
  refine go_static (q := 8) X1 hx hZ hown (y := (⟨"jdk/internal/util/Preconditions", "checkIndex", "(IILjava/util/function/BiFunction;)I"⟩ : MethodName)) (w80 hw) (w81 hw) (w79 hw) (w82 hw) (by decide) e1 (b19_1 l Z a0 hw sf rsf h0 n0 O0 ) (argsL := [(.int (1 : Int32)), (.int (4 : Int32)), sf]) (rest := []) rfl (lenOf pd_8 rfl) rfl (by rw [hml]; rfl) (W := 0) (Nat.le_of_eq rfl) (hb hby d18_5) (by decide) (by decide) (by decide) (by decide) rfl ?_
  rintro T2 h2 _ L2 X2 e2 ⟨rfl, M2, K2⟩
  have N2 := Fr.app N0 M2
  refine go_pop (q := 9) X2 hx (hb hby d18_8) rfl rfl ?_
  refine go_ret0 X2 hx hret hlk e2 (hb hby d18_9) (by decide) (by decide) ?_
  exact ⟨rfl, N2, ((Keep.refl h0 []).trans K2 all0)⟩
set_option maxRecDepth 65536 in
set_option maxHeartbeats 40000000 in
theorem b21_1 (l : Launch) (Z : State) (a0 : Array Value) (hw : ∀ d ∈ tables_1, d.before a0 Z = true) (a1 : Addr) (kb : ClassId) (vs : List Value) (dv : Value) (sf : Value) (rsf : sf.isRef = true) (h0 : Heap) (n0 : Nat) (O0 : Old Z n0 h0) (A_0 : Arv Z h0 a1 kb .byte (8 : Int32) vs dv) (S_1 : Sta Z Z.heap "jdk/internal/util/Preconditions" "SIOOBE_FORMATTER" "Ljava/util/function/BiFunction;" sf) :
    Con l Z (⟨"java/lang/StringUTF16", "checkIndex", "(I[B)V"⟩ : MethodName) jdk_52_method_91_code 2 none ({ frames := 2, cells := 0, slots := 0, locals := 27 } : Room) #[(.int (1 : Int32)), (.ref a1)] h0 (fun v h L => v = none ∧ Fr n0 L ∧ Keep h0 h []) := by
  refine Con.of (plainFor_of_name pn_0) ?_
  intro p e s m below meth c s₁ hx hby hml hZ hown hnm hret hlk X0 e0
  have N0 := Fr.nil n0
  refine go_cast (g' := mkF m 0 #[.val (.int (1 : Int32)), .val (.ref a1)] []) ?_ (by first | (simp [entryFrame, mkF, argsToLocals, Value.category]; done) | rfl)
  refine go_iload_n (q := 1) X0 hx (hb hby d21_0) (v := (1 : Int32)) rfl rfl ?_
  refine go_aload_n (q := 2) X0 hx (hb hby d21_1) (v := (.ref a1)) rfl rfl rfl ?_
  refine go_static (q := 5) X0 hx hZ hown (y := (⟨"java/lang/StringUTF16", "length", "([B)I"⟩ : MethodName)) (w89 hw) (w90 hw) (w22 hw) (w91 hw) (by decide) e0 (b22 l Z a0 hw a1 kb vs dv h0 n0 O0 A_0) (argsL := [(.ref a1)]) (rest := [(.int (1 : Int32))]) rfl (lenOf pd_9 rfl) rfl (by rw [hml]; rfl) (W := 1) (Nat.le_of_eq rfl) (hb hby d21_2) (by decide) (by decide) (by decide) (by decide) rfl ?_
  rintro T1 h1 _ L1 X1 e1 ⟨rfl, M1, K1⟩
  have N1 := Fr.app N0 M1
  have O2 : Old Z n0 h1 := (O0.keep K1 all0)
  refine go_static (q := 8) X1 hx hZ hown (y := (⟨"java/lang/String", "checkIndex", "(II)V"⟩ : MethodName)) (w92 hw) (w76 hw) (w8 hw) (w77 hw) (by decide) e1 (b18_1 l Z a0 hw sf rsf h1 n0 O2 S_1) (argsL := [(.int (1 : Int32)), (.int (4 : Int32))]) (rest := []) rfl (lenOf pd_10 rfl) rfl (by rw [hml]; rfl) (W := 0) (Nat.le_of_eq rfl) (hb hby d21_5) (by decide) (by decide) (by decide) (by decide) rfl ?_
  rintro T3 h3 _ L3 X3 e3 ⟨rfl, M3, K3⟩
  have N3 := Fr.app N1 M3
  refine go_ret0 X3 hx hret hlk e3 (hb hby d21_8) (by decide) (by decide) ?_
  exact ⟨rfl, N3, (((Keep.refl h0 []).trans K1 all0).trans K3 all0)⟩
set_option maxRecDepth 65536 in
set_option maxHeartbeats 40000000 in
theorem b17_1 (l : Launch) (Z : State) (a0 : Array Value) (hw : ∀ d ∈ tables_1, d.before a0 Z = true) (a1 : Addr) (kb : ClassId) (sf : Value) (rsf : sf.isRef = true) (x0 : Int32) (x1 : Int32) (x2 : Int32) (x3 : Int32) (h0 : Heap) (n0 : Nat) (O0 : Old Z n0 h0) (A_0 : Arv Z h0 a1 kb .byte (4 : Int32) [(.int x0.toInt8.toInt32), (.int x1.toInt8.toInt32), (.int x2.toInt8.toInt32), (.int x3.toInt8.toInt32)] (.int (0 : Int32))) (S_1 : Sta Z Z.heap "jdk/internal/util/Preconditions" "SIOOBE_FORMATTER" "Ljava/util/function/BiFunction;" sf) (hr_2 : (0 ≤ x1.toInt ∧ x1.toInt ≤ 65535)) (hr_3 : (¬ (255 : Int32) < x1)) :
    Con l Z (⟨"java/lang/StringLatin1", "charAt", "([BI)C"⟩ : MethodName) jdk_43_method_2_code 2 (some .char) ({ frames := 2, cells := 0, slots := 0, locals := 27 } : Room) #[(.ref a1), (.int (1 : Int32))] h0 (fun v h L => v = some (.int x1) ∧ Fr n0 L ∧ Keep h0 h []) := by
  refine Con.of (plainFor_of_name pn_3) ?_
  intro p e s m below meth c s₁ hx hby hml hZ hown hnm hret hlk X0 e0
  have N0 := Fr.nil n0
  refine go_cast (g' := mkF m 0 #[.val (.ref a1), .val (.int (1 : Int32))] []) ?_ (by first | (simp [entryFrame, mkF, argsToLocals, Value.category]; done) | rfl)
  refine go_iload_n (q := 1) X0 hx (hb hby d17_0) (v := (1 : Int32)) rfl rfl ?_
  refine go_aload_n (q := 2) X0 hx (hb hby d17_1) (v := (.ref a1)) rfl rfl rfl ?_
  refine go_alen (q := 3) X0 hx hZ e0 A_0 (hb hby d17_2) rfl ?_
  refine go_static (q := 6) X0 hx hZ hown (y := (⟨"java/lang/String", "checkIndex", "(II)V"⟩ : MethodName)) (w75 hw) (w76 hw) (w8 hw) (w77 hw) (by decide) e0 (b18_1 l Z a0 hw sf rsf h0 n0 O0 S_1) (argsL := [(.int (1 : Int32)), (.int (4 : Int32))]) (rest := []) rfl (lenOf pd_10 rfl) rfl (by rw [hml]; rfl) (W := 0) (Nat.le_of_eq rfl) (hb hby d17_3) (by decide) (by decide) (by decide) (by decide) rfl ?_
  rintro T1 h1 _ L1 X1 e1 ⟨rfl, M1, K1⟩
  have N1 := Fr.app N0 M1
  refine go_aload_n (q := 7) X1 hx (hb hby d17_6) (v := (.ref a1)) rfl rfl rfl ?_
  refine go_iload_n (q := 8) X1 hx (hb hby d17_7) (v := (1 : Int32)) rfl rfl ?_
  have f2 : Arv Z h1 a1 kb .byte (4 : Int32) [(.int x0.toInt8.toInt32), (.int x1.toInt8.toInt32), (.int x2.toInt8.toInt32), (.int x3.toInt8.toInt32)] (.int (0 : Int32)) := (A_0.keep K1 nin0)
  refine go_baload (q := 9) (j := (1 : Int32)) (v := (.int x1.toInt8.toInt32)) X1 hx hZ e1 f2 (by decide) rfl (hb hby d17_8) rfl ?_
  refine go_sipush (q := 12) X1 hx (hb hby d17_9) (v := (255 : Int32)) (by decide) rfl ?_
  refine go_iand (q := 13) X1 hx (hb hby d17_12) (v := (x1.toInt8.toInt32 &&& (255 : Int32))) rfl rfl ?_
  refine go_i2c (q := 14) (v := x1) X1 hx (hb hby d17_13) (own_l8 hr_2 hr_3) rfl ?_
  refine go_retI X1 hx hret hlk e1 (hb hby d17_14) (by simp) (own_chr hr_2).1 (by decide) (by decide) ?_
  exact ⟨rfl, N1, ((Keep.refl h0 []).trans K1 all0)⟩
set_option maxRecDepth 65536 in
set_option maxHeartbeats 40000000 in
theorem b20_1 (l : Launch) (Z : State) (a0 : Array Value) (hw : ∀ d ∈ tables_1, d.before a0 Z = true) (a1 : Addr) (kb : ClassId) (sf : Value) (rsf : sf.isRef = true) (x0 : Int32) (x1 : Int32) (x2 : Int32) (x3 : Int32) (h0 : Heap) (n0 : Nat) (O0 : Old Z n0 h0) (A_0 : Arv Z h0 a1 kb .byte (8 : Int32) [(.int x0.toInt8.toInt32), (.int (x0 >>> ((8 : Int32) &&& 31)).toInt8.toInt32), (.int x1.toInt8.toInt32), (.int (x1 >>> ((8 : Int32) &&& 31)).toInt8.toInt32), (.int x2.toInt8.toInt32), (.int (x2 >>> ((8 : Int32) &&& 31)).toInt8.toInt32), (.int x3.toInt8.toInt32), (.int (x3 >>> ((8 : Int32) &&& 31)).toInt8.toInt32)] (.int (0 : Int32))) (S_1 : Sta Z Z.heap "jdk/internal/util/Preconditions" "SIOOBE_FORMATTER" "Ljava/util/function/BiFunction;" sf) (S_2 : Sta Z Z.heap "java/lang/StringUTF16" "$assertionsDisabled" "Z" (.int (1 : Int32))) (S_3 : Sta Z Z.heap "java/lang/StringUTF16" "HI_BYTE_SHIFT" "I" (.int (0 : Int32))) (S_4 : Sta Z Z.heap "java/lang/StringUTF16" "LO_BYTE_SHIFT" "I" (.int (8 : Int32))) (hr_5 : (0 ≤ x1.toInt ∧ x1.toInt ≤ 65535)) :
    Con l Z (⟨"java/lang/StringUTF16", "charAt", "([BI)C"⟩ : MethodName) jdk_52_method_83_code 2 (some .char) ({ frames := 3, cells := 0, slots := 0, locals := 40 } : Room) #[(.ref a1), (.int (1 : Int32))] h0 (fun v h L => v = some (.int x1) ∧ Fr n0 L ∧ Keep h0 h []) := by
  refine Con.of (plainFor_of_name pn_0) ?_
  intro p e s m below meth c s₁ hx hby hml hZ hown hnm hret hlk X0 e0
  have N0 := Fr.nil n0
  refine go_cast (g' := mkF m 0 #[.val (.ref a1), .val (.int (1 : Int32))] []) ?_ (by first | (simp [entryFrame, mkF, argsToLocals, Value.category]; done) | rfl)
  refine go_iload_n (q := 1) X0 hx (hb hby d20_0) (v := (1 : Int32)) rfl rfl ?_
  refine go_aload_n (q := 2) X0 hx (hb hby d20_1) (v := (.ref a1)) rfl rfl rfl ?_
  refine go_static (q := 5) X0 hx hZ hown (y := (⟨"java/lang/StringUTF16", "checkIndex", "(I[B)V"⟩ : MethodName)) (w86 hw) (w87 hw) (w22 hw) (w88 hw) (by decide) e0 (b21_1 l Z a0 hw a1 kb [(.int x0.toInt8.toInt32), (.int (x0 >>> ((8 : Int32) &&& 31)).toInt8.toInt32), (.int x1.toInt8.toInt32), (.int (x1 >>> ((8 : Int32) &&& 31)).toInt8.toInt32), (.int x2.toInt8.toInt32), (.int (x2 >>> ((8 : Int32) &&& 31)).toInt8.toInt32), (.int x3.toInt8.toInt32), (.int (x3 >>> ((8 : Int32) &&& 31)).toInt8.toInt32)] (.int (0 : Int32)) sf rsf h0 n0 O0 A_0 S_1) (argsL := [(.int (1 : Int32)), (.ref a1)]) (rest := []) rfl (lenOf pd_11 rfl) rfl (by rw [hml]; rfl) (W := 0) (Nat.le_of_eq rfl) (hb hby d20_2) (by decide) (by decide) (by decide) (by decide) rfl ?_
  rintro T1 h1 _ L1 X1 e1 ⟨rfl, M1, K1⟩
  have N1 := Fr.app N0 M1
  refine go_aload_n (q := 6) X1 hx (hb hby d20_5) (v := (.ref a1)) rfl rfl rfl ?_
  refine go_iload_n (q := 7) X1 hx (hb hby d20_6) (v := (1 : Int32)) rfl rfl ?_
  have f2 : Arv Z h1 a1 kb .byte (8 : Int32) [(.int x0.toInt8.toInt32), (.int (x0 >>> ((8 : Int32) &&& 31)).toInt8.toInt32), (.int x1.toInt8.toInt32), (.int (x1 >>> ((8 : Int32) &&& 31)).toInt8.toInt32), (.int x2.toInt8.toInt32), (.int (x2 >>> ((8 : Int32) &&& 31)).toInt8.toInt32), (.int x3.toInt8.toInt32), (.int (x3 >>> ((8 : Int32) &&& 31)).toInt8.toInt32)] (.int (0 : Int32)) := (A_0.keep K1 nin0)
  have O3 : Old Z n0 h1 := (O0.keep K1 all0)
  refine go_static (q := 10) X1 hx hZ hown (y := (⟨"java/lang/StringUTF16", "getChar", "([BI)C"⟩ : MethodName)) (w55 hw) (w56 hw) (w22 hw) (w57 hw) (by decide) e1 (b13_1 l Z a0 hw a1 kb x0 x1 x2 x3 h1 n0 O3 f2 S_2 S_3 S_4 hr_5) (argsL := [(.ref a1), (.int (1 : Int32))]) (rest := []) rfl (lenOf pd_5 rfl) rfl (by rw [hml]; rfl) (W := 0) (Nat.le_of_eq rfl) (hb hby d20_7) (by decide) (by decide) (by decide) (by decide) rfl ?_
  rintro T4 h4 _ L4 X4 e4 ⟨rfl, M4, K4⟩
  have N4 := Fr.app N1 M4
  refine go_retI X4 hx hret hlk e4 (hb hby d20_10) (by simp) (own_chr hr_5).1 (by decide) (by decide) ?_
  exact ⟨rfl, N4, (((Keep.refl h0 []).trans K1 all0).trans K4 all0)⟩
set_option maxRecDepth 65536 in
set_option maxHeartbeats 40000000 in
theorem b15_1 (l : Launch) (Z : State) (a0 : Array Value) (hw : ∀ d ∈ tables_1, d.before a0 Z = true) (a1 : Addr) (zc : Int32) (sf : Value) (rsf : sf.isRef = true) (x0 : Int32) (x1 : Int32) (x2 : Int32) (x3 : Int32) (h0 : Heap) (n0 : Nat) (O0 : Old Z n0 h0) (P_0 : Str4 Z h0 a1 x0 x1 x2 x3) (S_1 : Sta Z Z.heap "java/lang/String" "COMPACT_STRINGS" "Z" (.int zc)) (hr_2 : (¬ zc = 0)) (S_3 : Sta Z Z.heap "jdk/internal/util/Preconditions" "SIOOBE_FORMATTER" "Ljava/util/function/BiFunction;" sf) (S_4 : Sta Z Z.heap "java/lang/StringUTF16" "$assertionsDisabled" "Z" (.int (1 : Int32))) (S_5 : Sta Z Z.heap "java/lang/StringUTF16" "HI_BYTE_SHIFT" "I" (.int (0 : Int32))) (S_6 : Sta Z Z.heap "java/lang/StringUTF16" "LO_BYTE_SHIFT" "I" (.int (8 : Int32))) (hr_7 : (0 ≤ x1.toInt ∧ x1.toInt ≤ 65535)) :
    Con l Z (⟨"java/lang/String", "charAt", "(I)C"⟩ : MethodName) jdk_42_method_56_code 2 (some .char) ({ frames := 4, cells := 0, slots := 0, locals := 53 } : Room) #[(.ref a1), (.int (1 : Int32))] h0 (fun v h L => v = some (.int x1) ∧ Fr n0 L ∧ Keep h0 h []) := by
  refine Con.of (plainFor_of_name pn_1) ?_
  intro p e s m below meth c s₁ hx hby hml hZ hown hnm hret hlk X0 e0
  have N0 := Fr.nil n0
  refine go_cast (g' := mkF m 0 #[.val (.ref a1), .val (.int (1 : Int32))] []) ?_ (by first | (simp [entryFrame, mkF, argsToLocals, Value.category]; done) | rfl)
  obtain ⟨b, kb, E, V, ⟨C0, A0, l0, l1, l2, l3⟩ | ⟨C0, A0⟩⟩ := P_0
  · refine go_aload_n (q := 1) X0 hx (hb hby d15_0) (v := (.ref a1)) rfl rfl rfl ?_
    refine go_virtual (q := 4) X0 hx hZ hown (y := (⟨"java/lang/String", "isLatin1", "()Z"⟩ : MethodName)) (z := (⟨"java/lang/String", "isLatin1", "()Z"⟩ : MethodName)) (a := a1) (w66 hw) (w67 hw) (notFace_of_selects (args := #[]) (mvT hZ (w69 hw))) (w69 hw) (w68 hw) (w8 hw) (w70 hw) (by decide) e0 E (b16 l Z a0 hw a1 zc h0 n0 O0 C0 S_1 hr_2) (argsL := []) (rest := []) rfl (lenOf pd_12 rfl) rfl (by rw [hml]; rfl) (W := 0) (Nat.le_of_eq rfl) (hb hby d15_1) (by decide) (by decide) (by decide) (by decide) rfl ?_
    rintro T1 h1 _ L1 X1 e1 ⟨rfl, M1, K1⟩
    have N1 := Fr.app N0 M1
    refine go_ifN (q := 7) X1 hx (hb hby d15_4) (XT.i0_eq_f (by decide)) rfl ?_
    refine go_aload_n (q := 8) X1 hx (hb hby d15_7) (v := (.ref a1)) rfl rfl rfl ?_
    have f2 : Fld Z h1 a1 "java/lang/String" "value" "[B" (.ref b) := (V.keep K1 nin0)
    refine go_getF (q := 11) (host := "") X1 hx hZ hown (Or.inl (w33 hw)) Via.refl e1 f2 (hb hby d15_8) rfl ?_
    intro T3 X3 e3
    refine go_iload_n (q := 12) X3 hx (hb hby d15_11) (v := (1 : Int32)) rfl rfl ?_
    have f4 : Arv Z h1 b kb .byte (4 : Int32) [(.int x0.toInt8.toInt32), (.int x1.toInt8.toInt32), (.int x2.toInt8.toInt32), (.int x3.toInt8.toInt32)] (.int (0 : Int32)) := (A0.keep K1 nin0)
    have O5 : Old Z n0 h1 := (O0.keep K1 all0)
    refine go_static (q := 15) X3 hx hZ hown (y := (⟨"java/lang/StringLatin1", "charAt", "([BI)C"⟩ : MethodName)) (w71 hw) (w72 hw) (w73 hw) (w74 hw) (by decide) e3 (b17_1 l Z a0 hw b kb sf rsf x0 x1 x2 x3 h1 n0 O5 f4 S_3 hr_7 l1) (argsL := [(.ref b), (.int (1 : Int32))]) (rest := []) rfl (lenOf pd_5 rfl) rfl (by rw [hml]; rfl) (W := 0) (Nat.le_of_eq rfl) (hb hby d15_12) (by decide) (by decide) (by decide) (by decide) rfl ?_
    rintro T6 h6 _ L6 X6 e6 ⟨rfl, M6, K6⟩
    have N6 := Fr.app N1 M6
    refine go_retI X6 hx hret hlk e6 (hb hby d15_15) (by simp) (own_chr hr_7).1 (by decide) (by decide) ?_
    exact ⟨rfl, N6, (((Keep.refl h0 []).trans K1 all0).trans K6 all0)⟩
  · refine go_aload_n (q := 1) X0 hx (hb hby d15_0) (v := (.ref a1)) rfl rfl rfl ?_
    refine go_virtual (q := 4) X0 hx hZ hown (y := (⟨"java/lang/String", "isLatin1", "()Z"⟩ : MethodName)) (z := (⟨"java/lang/String", "isLatin1", "()Z"⟩ : MethodName)) (a := a1) (w66 hw) (w67 hw) (notFace_of_selects (args := #[]) (mvT hZ (w69 hw))) (w69 hw) (w68 hw) (w8 hw) (w70 hw) (by decide) e0 E (b16_1 l Z a0 hw a1 zc h0 n0 O0 C0 S_1 hr_2) (argsL := []) (rest := []) rfl (lenOf pd_12 rfl) rfl (by rw [hml]; rfl) (W := 0) (Nat.le_of_eq rfl) (hb hby d15_1) (by decide) (by decide) (by decide) (by decide) rfl ?_
    rintro T7 h7 _ L7 X7 e7 ⟨rfl, M7, K7⟩
    have N7 := Fr.app N0 M7
    refine go_ifY (q := 16) X7 hx (hb hby d15_4) (XT.i0_eq_t (by decide)) (by decide) (by decide) ?_
    refine go_aload_n (q := 17) X7 hx (hb hby d15_16) (v := (.ref a1)) rfl rfl rfl ?_
    have f8 : Fld Z h7 a1 "java/lang/String" "value" "[B" (.ref b) := (V.keep K7 nin0)
    refine go_getF (q := 20) (host := "") X7 hx hZ hown (Or.inl (w33 hw)) Via.refl e7 f8 (hb hby d15_17) rfl ?_
    intro T9 X9 e9
    refine go_iload_n (q := 21) X9 hx (hb hby d15_20) (v := (1 : Int32)) rfl rfl ?_
    have f10 : Arv Z h7 b kb .byte (8 : Int32) [(.int x0.toInt8.toInt32), (.int (x0 >>> ((8 : Int32) &&& 31)).toInt8.toInt32), (.int x1.toInt8.toInt32), (.int (x1 >>> ((8 : Int32) &&& 31)).toInt8.toInt32), (.int x2.toInt8.toInt32), (.int (x2 >>> ((8 : Int32) &&& 31)).toInt8.toInt32), (.int x3.toInt8.toInt32), (.int (x3 >>> ((8 : Int32) &&& 31)).toInt8.toInt32)] (.int (0 : Int32)) := (A0.keep K7 nin0)
    have O11 : Old Z n0 h7 := (O0.keep K7 all0)
    refine go_static (q := 24) X9 hx hZ hown (y := (⟨"java/lang/StringUTF16", "charAt", "([BI)C"⟩ : MethodName)) (w83 hw) (w84 hw) (w22 hw) (w85 hw) (by decide) e9 (b20_1 l Z a0 hw b kb sf rsf x0 x1 x2 x3 h7 n0 O11 f10 S_3 S_4 S_5 S_6 hr_7) (argsL := [(.ref b), (.int (1 : Int32))]) (rest := []) rfl (lenOf pd_5 rfl) rfl (by rw [hml]; rfl) (W := 0) (Nat.le_of_eq rfl) (hb hby d15_21) (by decide) (by decide) (by decide) (by decide) rfl ?_
    rintro T12 h12 _ L12 X12 e12 ⟨rfl, M12, K12⟩
    have N12 := Fr.app N7 M12
    refine go_retI X12 hx hret hlk e12 (hb hby d15_24) (by simp) (own_chr hr_7).1 (by decide) (by decide) ?_
    exact ⟨rfl, N12, (((Keep.refl h0 []).trans K7 all0).trans K12 all0)⟩
set_option maxRecDepth 65536 in
set_option maxHeartbeats 40000000 in
theorem b19_2 (l : Launch) (Z : State) (a0 : Array Value) (hw : ∀ d ∈ tables_1, d.before a0 Z = true) (sf : Value) (rsf : sf.isRef = true) (h0 : Heap) (n0 : Nat) (O0 : Old Z n0 h0)  :
    Con l Z (⟨"jdk/internal/util/Preconditions", "checkIndex", "(IILjava/util/function/BiFunction;)I"⟩ : MethodName) jdk_41_method_11_code 3 (some .int) ({ frames := 0, cells := 0, slots := 0, locals := 0 } : Room) #[(.int (2 : Int32)), (.int (4 : Int32)), sf] h0 (fun v h L => v = some (.int (2 : Int32)) ∧ Fr n0 L ∧ Keep h0 h []) := by
  refine Con.of (plainFor_of_name pn_2) ?_
  intro p e s m below meth c s₁ hx hby hml hZ hown hnm hret hlk X0 e0
  have N0 := Fr.nil n0
  refine go_cast (g' := mkF m 0 #[.val (.int (2 : Int32)), .val (.int (4 : Int32)), .val sf] []) ?_ (by first | (simp [entryFrame, mkF, argsToLocals, own_cI, own_cR, own_cN, own_cJ, own_cD, XT.cat1 rsf]; done) | rfl)
  refine go_iload_n (q := 1) X0 hx (hb hby d19_0) (v := (2 : Int32)) rfl rfl ?_
  refine go_ifN (q := 4) X0 hx (hb hby d19_1) (XT.i0_lt_f (by decide)) rfl ?_
  refine go_iload_n (q := 5) X0 hx (hb hby d19_4) (v := (2 : Int32)) rfl rfl ?_
  refine go_iload_n (q := 6) X0 hx (hb hby d19_5) (v := (4 : Int32)) rfl rfl ?_
  refine go_icmpY (q := 16) X0 hx (hb hby d19_6) (XT.ii_lt_t (by decide)) (by decide) (by decide) ?_
  refine go_iload_n (q := 17) X0 hx (hb hby d19_16) (v := (2 : Int32)) rfl rfl ?_
  refine go_retI X0 hx hret hlk e0 (hb hby d19_17) (by simp) rfl (by decide) (by decide) ?_
  exact ⟨rfl, N0, (Keep.refl h0 [])⟩
set_option maxRecDepth 65536 in
set_option maxHeartbeats 40000000 in
theorem b18_2 (l : Launch) (Z : State) (a0 : Array Value) (hw : ∀ d ∈ tables_1, d.before a0 Z = true) (sf : Value) (rsf : sf.isRef = true) (h0 : Heap) (n0 : Nat) (O0 : Old Z n0 h0) (S_0 : Sta Z Z.heap "jdk/internal/util/Preconditions" "SIOOBE_FORMATTER" "Ljava/util/function/BiFunction;" sf) :
    Con l Z (⟨"java/lang/String", "checkIndex", "(II)V"⟩ : MethodName) jdk_42_method_155_code 2 none ({ frames := 1, cells := 0, slots := 0, locals := 14 } : Room) #[(.int (2 : Int32)), (.int (4 : Int32))] h0 (fun v h L => v = none ∧ Fr n0 L ∧ Keep h0 h []) := by
  refine Con.of (plainFor_of_name pn_1) ?_
  intro p e s m below meth c s₁ hx hby hml hZ hown hnm hret hlk X0 e0
  have N0 := Fr.nil n0
  refine go_cast (g' := mkF m 0 #[.val (.int (2 : Int32)), .val (.int (4 : Int32))] []) ?_ (by first | (simp [entryFrame, mkF, argsToLocals, Value.category]; done) | rfl)
  refine go_iload_n (q := 1) X0 hx (hb hby d18_0) (v := (2 : Int32)) rfl rfl ?_
  refine go_iload_n (q := 2) X0 hx (hb hby d18_1) (v := (4 : Int32)) rfl rfl ?_
  refine go_getS (q := 5) (host := "") X0 hx hZ hown (Or.inl (w78 hw)) Via.refl e0 (Sta.ext O0.2 S_0) (hb hby d18_2) rfl ?_
  intro T1 X1 e1
  refine go_static (q := 8) X1 hx hZ hown (y := (⟨"jdk/internal/util/Preconditions", "checkIndex", "(IILjava/util/function/BiFunction;)I"⟩ : MethodName)) (w80 hw) (w81 hw) (w79 hw) (w82 hw) (by decide) e1 (b19_2 l Z a0 hw sf rsf h0 n0 O0 ) (argsL := [(.int (2 : Int32)), (.int (4 : Int32)), sf]) (rest := []) rfl (lenOf pd_8 rfl) rfl (by rw [hml]; rfl) (W := 0) (Nat.le_of_eq rfl) (hb hby d18_5) (by decide) (by decide) (by decide) (by decide) rfl ?_
  rintro T2 h2 _ L2 X2 e2 ⟨rfl, M2, K2⟩
  have N2 := Fr.app N0 M2
  refine go_pop (q := 9) X2 hx (hb hby d18_8) rfl rfl ?_
  refine go_ret0 X2 hx hret hlk e2 (hb hby d18_9) (by decide) (by decide) ?_
  exact ⟨rfl, N2, ((Keep.refl h0 []).trans K2 all0)⟩
set_option maxRecDepth 65536 in
set_option maxHeartbeats 40000000 in
theorem b21_2 (l : Launch) (Z : State) (a0 : Array Value) (hw : ∀ d ∈ tables_1, d.before a0 Z = true) (a1 : Addr) (kb : ClassId) (vs : List Value) (dv : Value) (sf : Value) (rsf : sf.isRef = true) (h0 : Heap) (n0 : Nat) (O0 : Old Z n0 h0) (A_0 : Arv Z h0 a1 kb .byte (8 : Int32) vs dv) (S_1 : Sta Z Z.heap "jdk/internal/util/Preconditions" "SIOOBE_FORMATTER" "Ljava/util/function/BiFunction;" sf) :
    Con l Z (⟨"java/lang/StringUTF16", "checkIndex", "(I[B)V"⟩ : MethodName) jdk_52_method_91_code 2 none ({ frames := 2, cells := 0, slots := 0, locals := 27 } : Room) #[(.int (2 : Int32)), (.ref a1)] h0 (fun v h L => v = none ∧ Fr n0 L ∧ Keep h0 h []) := by
  refine Con.of (plainFor_of_name pn_0) ?_
  intro p e s m below meth c s₁ hx hby hml hZ hown hnm hret hlk X0 e0
  have N0 := Fr.nil n0
  refine go_cast (g' := mkF m 0 #[.val (.int (2 : Int32)), .val (.ref a1)] []) ?_ (by first | (simp [entryFrame, mkF, argsToLocals, Value.category]; done) | rfl)
  refine go_iload_n (q := 1) X0 hx (hb hby d21_0) (v := (2 : Int32)) rfl rfl ?_
  refine go_aload_n (q := 2) X0 hx (hb hby d21_1) (v := (.ref a1)) rfl rfl rfl ?_
  refine go_static (q := 5) X0 hx hZ hown (y := (⟨"java/lang/StringUTF16", "length", "([B)I"⟩ : MethodName)) (w89 hw) (w90 hw) (w22 hw) (w91 hw) (by decide) e0 (b22 l Z a0 hw a1 kb vs dv h0 n0 O0 A_0) (argsL := [(.ref a1)]) (rest := [(.int (2 : Int32))]) rfl (lenOf pd_9 rfl) rfl (by rw [hml]; rfl) (W := 1) (Nat.le_of_eq rfl) (hb hby d21_2) (by decide) (by decide) (by decide) (by decide) rfl ?_
  rintro T1 h1 _ L1 X1 e1 ⟨rfl, M1, K1⟩
  have N1 := Fr.app N0 M1
  have O2 : Old Z n0 h1 := (O0.keep K1 all0)
  refine go_static (q := 8) X1 hx hZ hown (y := (⟨"java/lang/String", "checkIndex", "(II)V"⟩ : MethodName)) (w92 hw) (w76 hw) (w8 hw) (w77 hw) (by decide) e1 (b18_2 l Z a0 hw sf rsf h1 n0 O2 S_1) (argsL := [(.int (2 : Int32)), (.int (4 : Int32))]) (rest := []) rfl (lenOf pd_10 rfl) rfl (by rw [hml]; rfl) (W := 0) (Nat.le_of_eq rfl) (hb hby d21_5) (by decide) (by decide) (by decide) (by decide) rfl ?_
  rintro T3 h3 _ L3 X3 e3 ⟨rfl, M3, K3⟩
  have N3 := Fr.app N1 M3
  refine go_ret0 X3 hx hret hlk e3 (hb hby d21_8) (by decide) (by decide) ?_
  exact ⟨rfl, N3, (((Keep.refl h0 []).trans K1 all0).trans K3 all0)⟩
set_option maxRecDepth 65536 in
set_option maxHeartbeats 40000000 in
theorem b17_2 (l : Launch) (Z : State) (a0 : Array Value) (hw : ∀ d ∈ tables_1, d.before a0 Z = true) (a1 : Addr) (kb : ClassId) (sf : Value) (rsf : sf.isRef = true) (x0 : Int32) (x1 : Int32) (x2 : Int32) (x3 : Int32) (h0 : Heap) (n0 : Nat) (O0 : Old Z n0 h0) (A_0 : Arv Z h0 a1 kb .byte (4 : Int32) [(.int x0.toInt8.toInt32), (.int x1.toInt8.toInt32), (.int x2.toInt8.toInt32), (.int x3.toInt8.toInt32)] (.int (0 : Int32))) (S_1 : Sta Z Z.heap "jdk/internal/util/Preconditions" "SIOOBE_FORMATTER" "Ljava/util/function/BiFunction;" sf) (hr_2 : (0 ≤ x2.toInt ∧ x2.toInt ≤ 65535)) (hr_3 : (¬ (255 : Int32) < x2)) :
    Con l Z (⟨"java/lang/StringLatin1", "charAt", "([BI)C"⟩ : MethodName) jdk_43_method_2_code 2 (some .char) ({ frames := 2, cells := 0, slots := 0, locals := 27 } : Room) #[(.ref a1), (.int (2 : Int32))] h0 (fun v h L => v = some (.int x2) ∧ Fr n0 L ∧ Keep h0 h []) := by
  refine Con.of (plainFor_of_name pn_3) ?_
  intro p e s m below meth c s₁ hx hby hml hZ hown hnm hret hlk X0 e0
  have N0 := Fr.nil n0
  refine go_cast (g' := mkF m 0 #[.val (.ref a1), .val (.int (2 : Int32))] []) ?_ (by first | (simp [entryFrame, mkF, argsToLocals, Value.category]; done) | rfl)
  refine go_iload_n (q := 1) X0 hx (hb hby d17_0) (v := (2 : Int32)) rfl rfl ?_
  refine go_aload_n (q := 2) X0 hx (hb hby d17_1) (v := (.ref a1)) rfl rfl rfl ?_
  refine go_alen (q := 3) X0 hx hZ e0 A_0 (hb hby d17_2) rfl ?_
  refine go_static (q := 6) X0 hx hZ hown (y := (⟨"java/lang/String", "checkIndex", "(II)V"⟩ : MethodName)) (w75 hw) (w76 hw) (w8 hw) (w77 hw) (by decide) e0 (b18_2 l Z a0 hw sf rsf h0 n0 O0 S_1) (argsL := [(.int (2 : Int32)), (.int (4 : Int32))]) (rest := []) rfl (lenOf pd_10 rfl) rfl (by rw [hml]; rfl) (W := 0) (Nat.le_of_eq rfl) (hb hby d17_3) (by decide) (by decide) (by decide) (by decide) rfl ?_
  rintro T1 h1 _ L1 X1 e1 ⟨rfl, M1, K1⟩
  have N1 := Fr.app N0 M1
  refine go_aload_n (q := 7) X1 hx (hb hby d17_6) (v := (.ref a1)) rfl rfl rfl ?_
  refine go_iload_n (q := 8) X1 hx (hb hby d17_7) (v := (2 : Int32)) rfl rfl ?_
  have f2 : Arv Z h1 a1 kb .byte (4 : Int32) [(.int x0.toInt8.toInt32), (.int x1.toInt8.toInt32), (.int x2.toInt8.toInt32), (.int x3.toInt8.toInt32)] (.int (0 : Int32)) := (A_0.keep K1 nin0)
  refine go_baload (q := 9) (j := (2 : Int32)) (v := (.int x2.toInt8.toInt32)) X1 hx hZ e1 f2 (by decide) rfl (hb hby d17_8) rfl ?_
  refine go_sipush (q := 12) X1 hx (hb hby d17_9) (v := (255 : Int32)) (by decide) rfl ?_
  refine go_iand (q := 13) X1 hx (hb hby d17_12) (v := (x2.toInt8.toInt32 &&& (255 : Int32))) rfl rfl ?_
  refine go_i2c (q := 14) (v := x2) X1 hx (hb hby d17_13) (own_l8 hr_2 hr_3) rfl ?_
  refine go_retI X1 hx hret hlk e1 (hb hby d17_14) (by simp) (own_chr hr_2).1 (by decide) (by decide) ?_
  exact ⟨rfl, N1, ((Keep.refl h0 []).trans K1 all0)⟩
set_option maxRecDepth 65536 in
set_option maxHeartbeats 40000000 in
theorem b20_2 (l : Launch) (Z : State) (a0 : Array Value) (hw : ∀ d ∈ tables_1, d.before a0 Z = true) (a1 : Addr) (kb : ClassId) (sf : Value) (rsf : sf.isRef = true) (x0 : Int32) (x1 : Int32) (x2 : Int32) (x3 : Int32) (h0 : Heap) (n0 : Nat) (O0 : Old Z n0 h0) (A_0 : Arv Z h0 a1 kb .byte (8 : Int32) [(.int x0.toInt8.toInt32), (.int (x0 >>> ((8 : Int32) &&& 31)).toInt8.toInt32), (.int x1.toInt8.toInt32), (.int (x1 >>> ((8 : Int32) &&& 31)).toInt8.toInt32), (.int x2.toInt8.toInt32), (.int (x2 >>> ((8 : Int32) &&& 31)).toInt8.toInt32), (.int x3.toInt8.toInt32), (.int (x3 >>> ((8 : Int32) &&& 31)).toInt8.toInt32)] (.int (0 : Int32))) (S_1 : Sta Z Z.heap "jdk/internal/util/Preconditions" "SIOOBE_FORMATTER" "Ljava/util/function/BiFunction;" sf) (S_2 : Sta Z Z.heap "java/lang/StringUTF16" "$assertionsDisabled" "Z" (.int (1 : Int32))) (S_3 : Sta Z Z.heap "java/lang/StringUTF16" "HI_BYTE_SHIFT" "I" (.int (0 : Int32))) (S_4 : Sta Z Z.heap "java/lang/StringUTF16" "LO_BYTE_SHIFT" "I" (.int (8 : Int32))) (hr_5 : (0 ≤ x2.toInt ∧ x2.toInt ≤ 65535)) :
    Con l Z (⟨"java/lang/StringUTF16", "charAt", "([BI)C"⟩ : MethodName) jdk_52_method_83_code 2 (some .char) ({ frames := 3, cells := 0, slots := 0, locals := 40 } : Room) #[(.ref a1), (.int (2 : Int32))] h0 (fun v h L => v = some (.int x2) ∧ Fr n0 L ∧ Keep h0 h []) := by
  refine Con.of (plainFor_of_name pn_0) ?_
  intro p e s m below meth c s₁ hx hby hml hZ hown hnm hret hlk X0 e0
  have N0 := Fr.nil n0
  refine go_cast (g' := mkF m 0 #[.val (.ref a1), .val (.int (2 : Int32))] []) ?_ (by first | (simp [entryFrame, mkF, argsToLocals, Value.category]; done) | rfl)
  refine go_iload_n (q := 1) X0 hx (hb hby d20_0) (v := (2 : Int32)) rfl rfl ?_
  refine go_aload_n (q := 2) X0 hx (hb hby d20_1) (v := (.ref a1)) rfl rfl rfl ?_
  refine go_static (q := 5) X0 hx hZ hown (y := (⟨"java/lang/StringUTF16", "checkIndex", "(I[B)V"⟩ : MethodName)) (w86 hw) (w87 hw) (w22 hw) (w88 hw) (by decide) e0 (b21_2 l Z a0 hw a1 kb [(.int x0.toInt8.toInt32), (.int (x0 >>> ((8 : Int32) &&& 31)).toInt8.toInt32), (.int x1.toInt8.toInt32), (.int (x1 >>> ((8 : Int32) &&& 31)).toInt8.toInt32), (.int x2.toInt8.toInt32), (.int (x2 >>> ((8 : Int32) &&& 31)).toInt8.toInt32), (.int x3.toInt8.toInt32), (.int (x3 >>> ((8 : Int32) &&& 31)).toInt8.toInt32)] (.int (0 : Int32)) sf rsf h0 n0 O0 A_0 S_1) (argsL := [(.int (2 : Int32)), (.ref a1)]) (rest := []) rfl (lenOf pd_11 rfl) rfl (by rw [hml]; rfl) (W := 0) (Nat.le_of_eq rfl) (hb hby d20_2) (by decide) (by decide) (by decide) (by decide) rfl ?_
  rintro T1 h1 _ L1 X1 e1 ⟨rfl, M1, K1⟩
  have N1 := Fr.app N0 M1
  refine go_aload_n (q := 6) X1 hx (hb hby d20_5) (v := (.ref a1)) rfl rfl rfl ?_
  refine go_iload_n (q := 7) X1 hx (hb hby d20_6) (v := (2 : Int32)) rfl rfl ?_
  have f2 : Arv Z h1 a1 kb .byte (8 : Int32) [(.int x0.toInt8.toInt32), (.int (x0 >>> ((8 : Int32) &&& 31)).toInt8.toInt32), (.int x1.toInt8.toInt32), (.int (x1 >>> ((8 : Int32) &&& 31)).toInt8.toInt32), (.int x2.toInt8.toInt32), (.int (x2 >>> ((8 : Int32) &&& 31)).toInt8.toInt32), (.int x3.toInt8.toInt32), (.int (x3 >>> ((8 : Int32) &&& 31)).toInt8.toInt32)] (.int (0 : Int32)) := (A_0.keep K1 nin0)
  have O3 : Old Z n0 h1 := (O0.keep K1 all0)
  refine go_static (q := 10) X1 hx hZ hown (y := (⟨"java/lang/StringUTF16", "getChar", "([BI)C"⟩ : MethodName)) (w55 hw) (w56 hw) (w22 hw) (w57 hw) (by decide) e1 (b13_2 l Z a0 hw a1 kb x0 x1 x2 x3 h1 n0 O3 f2 S_2 S_3 S_4 hr_5) (argsL := [(.ref a1), (.int (2 : Int32))]) (rest := []) rfl (lenOf pd_5 rfl) rfl (by rw [hml]; rfl) (W := 0) (Nat.le_of_eq rfl) (hb hby d20_7) (by decide) (by decide) (by decide) (by decide) rfl ?_
  rintro T4 h4 _ L4 X4 e4 ⟨rfl, M4, K4⟩
  have N4 := Fr.app N1 M4
  refine go_retI X4 hx hret hlk e4 (hb hby d20_10) (by simp) (own_chr hr_5).1 (by decide) (by decide) ?_
  exact ⟨rfl, N4, (((Keep.refl h0 []).trans K1 all0).trans K4 all0)⟩
set_option maxRecDepth 65536 in
set_option maxHeartbeats 40000000 in
theorem b15_2 (l : Launch) (Z : State) (a0 : Array Value) (hw : ∀ d ∈ tables_1, d.before a0 Z = true) (a1 : Addr) (zc : Int32) (sf : Value) (rsf : sf.isRef = true) (x0 : Int32) (x1 : Int32) (x2 : Int32) (x3 : Int32) (h0 : Heap) (n0 : Nat) (O0 : Old Z n0 h0) (P_0 : Str4 Z h0 a1 x0 x1 x2 x3) (S_1 : Sta Z Z.heap "java/lang/String" "COMPACT_STRINGS" "Z" (.int zc)) (hr_2 : (¬ zc = 0)) (S_3 : Sta Z Z.heap "jdk/internal/util/Preconditions" "SIOOBE_FORMATTER" "Ljava/util/function/BiFunction;" sf) (S_4 : Sta Z Z.heap "java/lang/StringUTF16" "$assertionsDisabled" "Z" (.int (1 : Int32))) (S_5 : Sta Z Z.heap "java/lang/StringUTF16" "HI_BYTE_SHIFT" "I" (.int (0 : Int32))) (S_6 : Sta Z Z.heap "java/lang/StringUTF16" "LO_BYTE_SHIFT" "I" (.int (8 : Int32))) (hr_7 : (0 ≤ x2.toInt ∧ x2.toInt ≤ 65535)) :
    Con l Z (⟨"java/lang/String", "charAt", "(I)C"⟩ : MethodName) jdk_42_method_56_code 2 (some .char) ({ frames := 4, cells := 0, slots := 0, locals := 53 } : Room) #[(.ref a1), (.int (2 : Int32))] h0 (fun v h L => v = some (.int x2) ∧ Fr n0 L ∧ Keep h0 h []) := by
  refine Con.of (plainFor_of_name pn_1) ?_
  intro p e s m below meth c s₁ hx hby hml hZ hown hnm hret hlk X0 e0
  have N0 := Fr.nil n0
  refine go_cast (g' := mkF m 0 #[.val (.ref a1), .val (.int (2 : Int32))] []) ?_ (by first | (simp [entryFrame, mkF, argsToLocals, Value.category]; done) | rfl)
  obtain ⟨b, kb, E, V, ⟨C0, A0, l0, l1, l2, l3⟩ | ⟨C0, A0⟩⟩ := P_0
  · refine go_aload_n (q := 1) X0 hx (hb hby d15_0) (v := (.ref a1)) rfl rfl rfl ?_
    refine go_virtual (q := 4) X0 hx hZ hown (y := (⟨"java/lang/String", "isLatin1", "()Z"⟩ : MethodName)) (z := (⟨"java/lang/String", "isLatin1", "()Z"⟩ : MethodName)) (a := a1) (w66 hw) (w67 hw) (notFace_of_selects (args := #[]) (mvT hZ (w69 hw))) (w69 hw) (w68 hw) (w8 hw) (w70 hw) (by decide) e0 E (b16 l Z a0 hw a1 zc h0 n0 O0 C0 S_1 hr_2) (argsL := []) (rest := []) rfl (lenOf pd_12 rfl) rfl (by rw [hml]; rfl) (W := 0) (Nat.le_of_eq rfl) (hb hby d15_1) (by decide) (by decide) (by decide) (by decide) rfl ?_
    rintro T1 h1 _ L1 X1 e1 ⟨rfl, M1, K1⟩
    have N1 := Fr.app N0 M1
    refine go_ifN (q := 7) X1 hx (hb hby d15_4) (XT.i0_eq_f (by decide)) rfl ?_
    refine go_aload_n (q := 8) X1 hx (hb hby d15_7) (v := (.ref a1)) rfl rfl rfl ?_
    have f2 : Fld Z h1 a1 "java/lang/String" "value" "[B" (.ref b) := (V.keep K1 nin0)
    refine go_getF (q := 11) (host := "") X1 hx hZ hown (Or.inl (w33 hw)) Via.refl e1 f2 (hb hby d15_8) rfl ?_
    intro T3 X3 e3
    refine go_iload_n (q := 12) X3 hx (hb hby d15_11) (v := (2 : Int32)) rfl rfl ?_
    have f4 : Arv Z h1 b kb .byte (4 : Int32) [(.int x0.toInt8.toInt32), (.int x1.toInt8.toInt32), (.int x2.toInt8.toInt32), (.int x3.toInt8.toInt32)] (.int (0 : Int32)) := (A0.keep K1 nin0)
    have O5 : Old Z n0 h1 := (O0.keep K1 all0)
    refine go_static (q := 15) X3 hx hZ hown (y := (⟨"java/lang/StringLatin1", "charAt", "([BI)C"⟩ : MethodName)) (w71 hw) (w72 hw) (w73 hw) (w74 hw) (by decide) e3 (b17_2 l Z a0 hw b kb sf rsf x0 x1 x2 x3 h1 n0 O5 f4 S_3 hr_7 l2) (argsL := [(.ref b), (.int (2 : Int32))]) (rest := []) rfl (lenOf pd_5 rfl) rfl (by rw [hml]; rfl) (W := 0) (Nat.le_of_eq rfl) (hb hby d15_12) (by decide) (by decide) (by decide) (by decide) rfl ?_
    rintro T6 h6 _ L6 X6 e6 ⟨rfl, M6, K6⟩
    have N6 := Fr.app N1 M6
    refine go_retI X6 hx hret hlk e6 (hb hby d15_15) (by simp) (own_chr hr_7).1 (by decide) (by decide) ?_
    exact ⟨rfl, N6, (((Keep.refl h0 []).trans K1 all0).trans K6 all0)⟩
  · refine go_aload_n (q := 1) X0 hx (hb hby d15_0) (v := (.ref a1)) rfl rfl rfl ?_
    refine go_virtual (q := 4) X0 hx hZ hown (y := (⟨"java/lang/String", "isLatin1", "()Z"⟩ : MethodName)) (z := (⟨"java/lang/String", "isLatin1", "()Z"⟩ : MethodName)) (a := a1) (w66 hw) (w67 hw) (notFace_of_selects (args := #[]) (mvT hZ (w69 hw))) (w69 hw) (w68 hw) (w8 hw) (w70 hw) (by decide) e0 E (b16_1 l Z a0 hw a1 zc h0 n0 O0 C0 S_1 hr_2) (argsL := []) (rest := []) rfl (lenOf pd_12 rfl) rfl (by rw [hml]; rfl) (W := 0) (Nat.le_of_eq rfl) (hb hby d15_1) (by decide) (by decide) (by decide) (by decide) rfl ?_
    rintro T7 h7 _ L7 X7 e7 ⟨rfl, M7, K7⟩
    have N7 := Fr.app N0 M7
    refine go_ifY (q := 16) X7 hx (hb hby d15_4) (XT.i0_eq_t (by decide)) (by decide) (by decide) ?_
    refine go_aload_n (q := 17) X7 hx (hb hby d15_16) (v := (.ref a1)) rfl rfl rfl ?_
    have f8 : Fld Z h7 a1 "java/lang/String" "value" "[B" (.ref b) := (V.keep K7 nin0)
    refine go_getF (q := 20) (host := "") X7 hx hZ hown (Or.inl (w33 hw)) Via.refl e7 f8 (hb hby d15_17) rfl ?_
    intro T9 X9 e9
    refine go_iload_n (q := 21) X9 hx (hb hby d15_20) (v := (2 : Int32)) rfl rfl ?_
    have f10 : Arv Z h7 b kb .byte (8 : Int32) [(.int x0.toInt8.toInt32), (.int (x0 >>> ((8 : Int32) &&& 31)).toInt8.toInt32), (.int x1.toInt8.toInt32), (.int (x1 >>> ((8 : Int32) &&& 31)).toInt8.toInt32), (.int x2.toInt8.toInt32), (.int (x2 >>> ((8 : Int32) &&& 31)).toInt8.toInt32), (.int x3.toInt8.toInt32), (.int (x3 >>> ((8 : Int32) &&& 31)).toInt8.toInt32)] (.int (0 : Int32)) := (A0.keep K7 nin0)
    have O11 : Old Z n0 h7 := (O0.keep K7 all0)
    refine go_static (q := 24) X9 hx hZ hown (y := (⟨"java/lang/StringUTF16", "charAt", "([BI)C"⟩ : MethodName)) (w83 hw) (w84 hw) (w22 hw) (w85 hw) (by decide) e9 (b20_2 l Z a0 hw b kb sf rsf x0 x1 x2 x3 h7 n0 O11 f10 S_3 S_4 S_5 S_6 hr_7) (argsL := [(.ref b), (.int (2 : Int32))]) (rest := []) rfl (lenOf pd_5 rfl) rfl (by rw [hml]; rfl) (W := 0) (Nat.le_of_eq rfl) (hb hby d15_21) (by decide) (by decide) (by decide) (by decide) rfl ?_
    rintro T12 h12 _ L12 X12 e12 ⟨rfl, M12, K12⟩
    have N12 := Fr.app N7 M12
    refine go_retI X12 hx hret hlk e12 (hb hby d15_24) (by simp) (own_chr hr_7).1 (by decide) (by decide) ?_
    exact ⟨rfl, N12, (((Keep.refl h0 []).trans K7 all0).trans K12 all0)⟩
set_option maxRecDepth 65536 in
set_option maxHeartbeats 40000000 in
theorem b19_3 (l : Launch) (Z : State) (a0 : Array Value) (hw : ∀ d ∈ tables_1, d.before a0 Z = true) (sf : Value) (rsf : sf.isRef = true) (h0 : Heap) (n0 : Nat) (O0 : Old Z n0 h0)  :
    Con l Z (⟨"jdk/internal/util/Preconditions", "checkIndex", "(IILjava/util/function/BiFunction;)I"⟩ : MethodName) jdk_41_method_11_code 3 (some .int) ({ frames := 0, cells := 0, slots := 0, locals := 0 } : Room) #[(.int (3 : Int32)), (.int (4 : Int32)), sf] h0 (fun v h L => v = some (.int (3 : Int32)) ∧ Fr n0 L ∧ Keep h0 h []) := by
  refine Con.of (plainFor_of_name pn_2) ?_
  intro p e s m below meth c s₁ hx hby hml hZ hown hnm hret hlk X0 e0
  have N0 := Fr.nil n0
  refine go_cast (g' := mkF m 0 #[.val (.int (3 : Int32)), .val (.int (4 : Int32)), .val sf] []) ?_ (by first | (simp [entryFrame, mkF, argsToLocals, own_cI, own_cR, own_cN, own_cJ, own_cD, XT.cat1 rsf]; done) | rfl)
  refine go_iload_n (q := 1) X0 hx (hb hby d19_0) (v := (3 : Int32)) rfl rfl ?_
  refine go_ifN (q := 4) X0 hx (hb hby d19_1) (XT.i0_lt_f (by decide)) rfl ?_
  refine go_iload_n (q := 5) X0 hx (hb hby d19_4) (v := (3 : Int32)) rfl rfl ?_
  refine go_iload_n (q := 6) X0 hx (hb hby d19_5) (v := (4 : Int32)) rfl rfl ?_
  refine go_icmpY (q := 16) X0 hx (hb hby d19_6) (XT.ii_lt_t (by decide)) (by decide) (by decide) ?_
  refine go_iload_n (q := 17) X0 hx (hb hby d19_16) (v := (3 : Int32)) rfl rfl ?_
  refine go_retI X0 hx hret hlk e0 (hb hby d19_17) (by simp) rfl (by decide) (by decide) ?_
  exact ⟨rfl, N0, (Keep.refl h0 [])⟩
set_option maxRecDepth 65536 in
set_option maxHeartbeats 40000000 in
theorem b18_3 (l : Launch) (Z : State) (a0 : Array Value) (hw : ∀ d ∈ tables_1, d.before a0 Z = true) (sf : Value) (rsf : sf.isRef = true) (h0 : Heap) (n0 : Nat) (O0 : Old Z n0 h0) (S_0 : Sta Z Z.heap "jdk/internal/util/Preconditions" "SIOOBE_FORMATTER" "Ljava/util/function/BiFunction;" sf) :
    Con l Z (⟨"java/lang/String", "checkIndex", "(II)V"⟩ : MethodName) jdk_42_method_155_code 2 none ({ frames := 1, cells := 0, slots := 0, locals := 14 } : Room) #[(.int (3 : Int32)), (.int (4 : Int32))] h0 (fun v h L => v = none ∧ Fr n0 L ∧ Keep h0 h []) := by
  refine Con.of (plainFor_of_name pn_1) ?_
  intro p e s m below meth c s₁ hx hby hml hZ hown hnm hret hlk X0 e0
  have N0 := Fr.nil n0
  refine go_cast (g' := mkF m 0 #[.val (.int (3 : Int32)), .val (.int (4 : Int32))] []) ?_ (by first | (simp [entryFrame, mkF, argsToLocals, Value.category]; done) | rfl)
  refine go_iload_n (q := 1) X0 hx (hb hby d18_0) (v := (3 : Int32)) rfl rfl ?_
  refine go_iload_n (q := 2) X0 hx (hb hby d18_1) (v := (4 : Int32)) rfl rfl ?_
  refine go_getS (q := 5) (host := "") X0 hx hZ hown (Or.inl (w78 hw)) Via.refl e0 (Sta.ext O0.2 S_0) (hb hby d18_2) rfl ?_
  intro T1 X1 e1
  refine go_static (q := 8) X1 hx hZ hown (y := (⟨"jdk/internal/util/Preconditions", "checkIndex", "(IILjava/util/function/BiFunction;)I"⟩ : MethodName)) (w80 hw) (w81 hw) (w79 hw) (w82 hw) (by decide) e1 (b19_3 l Z a0 hw sf rsf h0 n0 O0 ) (argsL := [(.int (3 : Int32)), (.int (4 : Int32)), sf]) (rest := []) rfl (lenOf pd_8 rfl) rfl (by rw [hml]; rfl) (W := 0) (Nat.le_of_eq rfl) (hb hby d18_5) (by decide) (by decide) (by decide) (by decide) rfl ?_
  rintro T2 h2 _ L2 X2 e2 ⟨rfl, M2, K2⟩
  have N2 := Fr.app N0 M2
  refine go_pop (q := 9) X2 hx (hb hby d18_8) rfl rfl ?_
  refine go_ret0 X2 hx hret hlk e2 (hb hby d18_9) (by decide) (by decide) ?_
  exact ⟨rfl, N2, ((Keep.refl h0 []).trans K2 all0)⟩
set_option maxRecDepth 65536 in
set_option maxHeartbeats 40000000 in
theorem b21_3 (l : Launch) (Z : State) (a0 : Array Value) (hw : ∀ d ∈ tables_1, d.before a0 Z = true) (a1 : Addr) (kb : ClassId) (vs : List Value) (dv : Value) (sf : Value) (rsf : sf.isRef = true) (h0 : Heap) (n0 : Nat) (O0 : Old Z n0 h0) (A_0 : Arv Z h0 a1 kb .byte (8 : Int32) vs dv) (S_1 : Sta Z Z.heap "jdk/internal/util/Preconditions" "SIOOBE_FORMATTER" "Ljava/util/function/BiFunction;" sf) :
    Con l Z (⟨"java/lang/StringUTF16", "checkIndex", "(I[B)V"⟩ : MethodName) jdk_52_method_91_code 2 none ({ frames := 2, cells := 0, slots := 0, locals := 27 } : Room) #[(.int (3 : Int32)), (.ref a1)] h0 (fun v h L => v = none ∧ Fr n0 L ∧ Keep h0 h []) := by
  refine Con.of (plainFor_of_name pn_0) ?_
  intro p e s m below meth c s₁ hx hby hml hZ hown hnm hret hlk X0 e0
  have N0 := Fr.nil n0
  refine go_cast (g' := mkF m 0 #[.val (.int (3 : Int32)), .val (.ref a1)] []) ?_ (by first | (simp [entryFrame, mkF, argsToLocals, Value.category]; done) | rfl)
  refine go_iload_n (q := 1) X0 hx (hb hby d21_0) (v := (3 : Int32)) rfl rfl ?_
  refine go_aload_n (q := 2) X0 hx (hb hby d21_1) (v := (.ref a1)) rfl rfl rfl ?_
  refine go_static (q := 5) X0 hx hZ hown (y := (⟨"java/lang/StringUTF16", "length", "([B)I"⟩ : MethodName)) (w89 hw) (w90 hw) (w22 hw) (w91 hw) (by decide) e0 (b22 l Z a0 hw a1 kb vs dv h0 n0 O0 A_0) (argsL := [(.ref a1)]) (rest := [(.int (3 : Int32))]) rfl (lenOf pd_9 rfl) rfl (by rw [hml]; rfl) (W := 1) (Nat.le_of_eq rfl) (hb hby d21_2) (by decide) (by decide) (by decide) (by decide) rfl ?_
  rintro T1 h1 _ L1 X1 e1 ⟨rfl, M1, K1⟩
  have N1 := Fr.app N0 M1
  have O2 : Old Z n0 h1 := (O0.keep K1 all0)
  refine go_static (q := 8) X1 hx hZ hown (y := (⟨"java/lang/String", "checkIndex", "(II)V"⟩ : MethodName)) (w92 hw) (w76 hw) (w8 hw) (w77 hw) (by decide) e1 (b18_3 l Z a0 hw sf rsf h1 n0 O2 S_1) (argsL := [(.int (3 : Int32)), (.int (4 : Int32))]) (rest := []) rfl (lenOf pd_10 rfl) rfl (by rw [hml]; rfl) (W := 0) (Nat.le_of_eq rfl) (hb hby d21_5) (by decide) (by decide) (by decide) (by decide) rfl ?_
  rintro T3 h3 _ L3 X3 e3 ⟨rfl, M3, K3⟩
  have N3 := Fr.app N1 M3
  refine go_ret0 X3 hx hret hlk e3 (hb hby d21_8) (by decide) (by decide) ?_
  exact ⟨rfl, N3, (((Keep.refl h0 []).trans K1 all0).trans K3 all0)⟩
set_option maxRecDepth 65536 in
set_option maxHeartbeats 40000000 in
theorem b17_3 (l : Launch) (Z : State) (a0 : Array Value) (hw : ∀ d ∈ tables_1, d.before a0 Z = true) (a1 : Addr) (kb : ClassId) (sf : Value) (rsf : sf.isRef = true) (x0 : Int32) (x1 : Int32) (x2 : Int32) (x3 : Int32) (h0 : Heap) (n0 : Nat) (O0 : Old Z n0 h0) (A_0 : Arv Z h0 a1 kb .byte (4 : Int32) [(.int x0.toInt8.toInt32), (.int x1.toInt8.toInt32), (.int x2.toInt8.toInt32), (.int x3.toInt8.toInt32)] (.int (0 : Int32))) (S_1 : Sta Z Z.heap "jdk/internal/util/Preconditions" "SIOOBE_FORMATTER" "Ljava/util/function/BiFunction;" sf) (hr_2 : (0 ≤ x3.toInt ∧ x3.toInt ≤ 65535)) (hr_3 : (¬ (255 : Int32) < x3)) :
    Con l Z (⟨"java/lang/StringLatin1", "charAt", "([BI)C"⟩ : MethodName) jdk_43_method_2_code 2 (some .char) ({ frames := 2, cells := 0, slots := 0, locals := 27 } : Room) #[(.ref a1), (.int (3 : Int32))] h0 (fun v h L => v = some (.int x3) ∧ Fr n0 L ∧ Keep h0 h []) := by
  refine Con.of (plainFor_of_name pn_3) ?_
  intro p e s m below meth c s₁ hx hby hml hZ hown hnm hret hlk X0 e0
  have N0 := Fr.nil n0
  refine go_cast (g' := mkF m 0 #[.val (.ref a1), .val (.int (3 : Int32))] []) ?_ (by first | (simp [entryFrame, mkF, argsToLocals, Value.category]; done) | rfl)
  refine go_iload_n (q := 1) X0 hx (hb hby d17_0) (v := (3 : Int32)) rfl rfl ?_
  refine go_aload_n (q := 2) X0 hx (hb hby d17_1) (v := (.ref a1)) rfl rfl rfl ?_
  refine go_alen (q := 3) X0 hx hZ e0 A_0 (hb hby d17_2) rfl ?_
  refine go_static (q := 6) X0 hx hZ hown (y := (⟨"java/lang/String", "checkIndex", "(II)V"⟩ : MethodName)) (w75 hw) (w76 hw) (w8 hw) (w77 hw) (by decide) e0 (b18_3 l Z a0 hw sf rsf h0 n0 O0 S_1) (argsL := [(.int (3 : Int32)), (.int (4 : Int32))]) (rest := []) rfl (lenOf pd_10 rfl) rfl (by rw [hml]; rfl) (W := 0) (Nat.le_of_eq rfl) (hb hby d17_3) (by decide) (by decide) (by decide) (by decide) rfl ?_
  rintro T1 h1 _ L1 X1 e1 ⟨rfl, M1, K1⟩
  have N1 := Fr.app N0 M1
  refine go_aload_n (q := 7) X1 hx (hb hby d17_6) (v := (.ref a1)) rfl rfl rfl ?_
  refine go_iload_n (q := 8) X1 hx (hb hby d17_7) (v := (3 : Int32)) rfl rfl ?_
  have f2 : Arv Z h1 a1 kb .byte (4 : Int32) [(.int x0.toInt8.toInt32), (.int x1.toInt8.toInt32), (.int x2.toInt8.toInt32), (.int x3.toInt8.toInt32)] (.int (0 : Int32)) := (A_0.keep K1 nin0)
  refine go_baload (q := 9) (j := (3 : Int32)) (v := (.int x3.toInt8.toInt32)) X1 hx hZ e1 f2 (by decide) rfl (hb hby d17_8) rfl ?_
  refine go_sipush (q := 12) X1 hx (hb hby d17_9) (v := (255 : Int32)) (by decide) rfl ?_
  refine go_iand (q := 13) X1 hx (hb hby d17_12) (v := (x3.toInt8.toInt32 &&& (255 : Int32))) rfl rfl ?_
  refine go_i2c (q := 14) (v := x3) X1 hx (hb hby d17_13) (own_l8 hr_2 hr_3) rfl ?_
  refine go_retI X1 hx hret hlk e1 (hb hby d17_14) (by simp) (own_chr hr_2).1 (by decide) (by decide) ?_
  exact ⟨rfl, N1, ((Keep.refl h0 []).trans K1 all0)⟩
set_option maxRecDepth 65536 in
set_option maxHeartbeats 40000000 in
theorem b20_3 (l : Launch) (Z : State) (a0 : Array Value) (hw : ∀ d ∈ tables_1, d.before a0 Z = true) (a1 : Addr) (kb : ClassId) (sf : Value) (rsf : sf.isRef = true) (x0 : Int32) (x1 : Int32) (x2 : Int32) (x3 : Int32) (h0 : Heap) (n0 : Nat) (O0 : Old Z n0 h0) (A_0 : Arv Z h0 a1 kb .byte (8 : Int32) [(.int x0.toInt8.toInt32), (.int (x0 >>> ((8 : Int32) &&& 31)).toInt8.toInt32), (.int x1.toInt8.toInt32), (.int (x1 >>> ((8 : Int32) &&& 31)).toInt8.toInt32), (.int x2.toInt8.toInt32), (.int (x2 >>> ((8 : Int32) &&& 31)).toInt8.toInt32), (.int x3.toInt8.toInt32), (.int (x3 >>> ((8 : Int32) &&& 31)).toInt8.toInt32)] (.int (0 : Int32))) (S_1 : Sta Z Z.heap "jdk/internal/util/Preconditions" "SIOOBE_FORMATTER" "Ljava/util/function/BiFunction;" sf) (S_2 : Sta Z Z.heap "java/lang/StringUTF16" "$assertionsDisabled" "Z" (.int (1 : Int32))) (S_3 : Sta Z Z.heap "java/lang/StringUTF16" "HI_BYTE_SHIFT" "I" (.int (0 : Int32))) (S_4 : Sta Z Z.heap "java/lang/StringUTF16" "LO_BYTE_SHIFT" "I" (.int (8 : Int32))) (hr_5 : (0 ≤ x3.toInt ∧ x3.toInt ≤ 65535)) :
    Con l Z (⟨"java/lang/StringUTF16", "charAt", "([BI)C"⟩ : MethodName) jdk_52_method_83_code 2 (some .char) ({ frames := 3, cells := 0, slots := 0, locals := 40 } : Room) #[(.ref a1), (.int (3 : Int32))] h0 (fun v h L => v = some (.int x3) ∧ Fr n0 L ∧ Keep h0 h []) := by
  refine Con.of (plainFor_of_name pn_0) ?_
  intro p e s m below meth c s₁ hx hby hml hZ hown hnm hret hlk X0 e0
  have N0 := Fr.nil n0
  refine go_cast (g' := mkF m 0 #[.val (.ref a1), .val (.int (3 : Int32))] []) ?_ (by first | (simp [entryFrame, mkF, argsToLocals, Value.category]; done) | rfl)
  refine go_iload_n (q := 1) X0 hx (hb hby d20_0) (v := (3 : Int32)) rfl rfl ?_
  refine go_aload_n (q := 2) X0 hx (hb hby d20_1) (v := (.ref a1)) rfl rfl rfl ?_
  refine go_static (q := 5) X0 hx hZ hown (y := (⟨"java/lang/StringUTF16", "checkIndex", "(I[B)V"⟩ : MethodName)) (w86 hw) (w87 hw) (w22 hw) (w88 hw) (by decide) e0 (b21_3 l Z a0 hw a1 kb [(.int x0.toInt8.toInt32), (.int (x0 >>> ((8 : Int32) &&& 31)).toInt8.toInt32), (.int x1.toInt8.toInt32), (.int (x1 >>> ((8 : Int32) &&& 31)).toInt8.toInt32), (.int x2.toInt8.toInt32), (.int (x2 >>> ((8 : Int32) &&& 31)).toInt8.toInt32), (.int x3.toInt8.toInt32), (.int (x3 >>> ((8 : Int32) &&& 31)).toInt8.toInt32)] (.int (0 : Int32)) sf rsf h0 n0 O0 A_0 S_1) (argsL := [(.int (3 : Int32)), (.ref a1)]) (rest := []) rfl (lenOf pd_11 rfl) rfl (by rw [hml]; rfl) (W := 0) (Nat.le_of_eq rfl) (hb hby d20_2) (by decide) (by decide) (by decide) (by decide) rfl ?_
  rintro T1 h1 _ L1 X1 e1 ⟨rfl, M1, K1⟩
  have N1 := Fr.app N0 M1
  refine go_aload_n (q := 6) X1 hx (hb hby d20_5) (v := (.ref a1)) rfl rfl rfl ?_
  refine go_iload_n (q := 7) X1 hx (hb hby d20_6) (v := (3 : Int32)) rfl rfl ?_
  have f2 : Arv Z h1 a1 kb .byte (8 : Int32) [(.int x0.toInt8.toInt32), (.int (x0 >>> ((8 : Int32) &&& 31)).toInt8.toInt32), (.int x1.toInt8.toInt32), (.int (x1 >>> ((8 : Int32) &&& 31)).toInt8.toInt32), (.int x2.toInt8.toInt32), (.int (x2 >>> ((8 : Int32) &&& 31)).toInt8.toInt32), (.int x3.toInt8.toInt32), (.int (x3 >>> ((8 : Int32) &&& 31)).toInt8.toInt32)] (.int (0 : Int32)) := (A_0.keep K1 nin0)
  have O3 : Old Z n0 h1 := (O0.keep K1 all0)
  refine go_static (q := 10) X1 hx hZ hown (y := (⟨"java/lang/StringUTF16", "getChar", "([BI)C"⟩ : MethodName)) (w55 hw) (w56 hw) (w22 hw) (w57 hw) (by decide) e1 (b13_3 l Z a0 hw a1 kb x0 x1 x2 x3 h1 n0 O3 f2 S_2 S_3 S_4 hr_5) (argsL := [(.ref a1), (.int (3 : Int32))]) (rest := []) rfl (lenOf pd_5 rfl) rfl (by rw [hml]; rfl) (W := 0) (Nat.le_of_eq rfl) (hb hby d20_7) (by decide) (by decide) (by decide) (by decide) rfl ?_
  rintro T4 h4 _ L4 X4 e4 ⟨rfl, M4, K4⟩
  have N4 := Fr.app N1 M4
  refine go_retI X4 hx hret hlk e4 (hb hby d20_10) (by simp) (own_chr hr_5).1 (by decide) (by decide) ?_
  exact ⟨rfl, N4, (((Keep.refl h0 []).trans K1 all0).trans K4 all0)⟩
set_option maxRecDepth 65536 in
set_option maxHeartbeats 40000000 in
theorem b15_3 (l : Launch) (Z : State) (a0 : Array Value) (hw : ∀ d ∈ tables_1, d.before a0 Z = true) (a1 : Addr) (zc : Int32) (sf : Value) (rsf : sf.isRef = true) (x0 : Int32) (x1 : Int32) (x2 : Int32) (x3 : Int32) (h0 : Heap) (n0 : Nat) (O0 : Old Z n0 h0) (P_0 : Str4 Z h0 a1 x0 x1 x2 x3) (S_1 : Sta Z Z.heap "java/lang/String" "COMPACT_STRINGS" "Z" (.int zc)) (hr_2 : (¬ zc = 0)) (S_3 : Sta Z Z.heap "jdk/internal/util/Preconditions" "SIOOBE_FORMATTER" "Ljava/util/function/BiFunction;" sf) (S_4 : Sta Z Z.heap "java/lang/StringUTF16" "$assertionsDisabled" "Z" (.int (1 : Int32))) (S_5 : Sta Z Z.heap "java/lang/StringUTF16" "HI_BYTE_SHIFT" "I" (.int (0 : Int32))) (S_6 : Sta Z Z.heap "java/lang/StringUTF16" "LO_BYTE_SHIFT" "I" (.int (8 : Int32))) (hr_7 : (0 ≤ x3.toInt ∧ x3.toInt ≤ 65535)) :
    Con l Z (⟨"java/lang/String", "charAt", "(I)C"⟩ : MethodName) jdk_42_method_56_code 2 (some .char) ({ frames := 4, cells := 0, slots := 0, locals := 53 } : Room) #[(.ref a1), (.int (3 : Int32))] h0 (fun v h L => v = some (.int x3) ∧ Fr n0 L ∧ Keep h0 h []) := by
  refine Con.of (plainFor_of_name pn_1) ?_
  intro p e s m below meth c s₁ hx hby hml hZ hown hnm hret hlk X0 e0
  have N0 := Fr.nil n0
  refine go_cast (g' := mkF m 0 #[.val (.ref a1), .val (.int (3 : Int32))] []) ?_ (by first | (simp [entryFrame, mkF, argsToLocals, Value.category]; done) | rfl)
  obtain ⟨b, kb, E, V, ⟨C0, A0, l0, l1, l2, l3⟩ | ⟨C0, A0⟩⟩ := P_0
  · refine go_aload_n (q := 1) X0 hx (hb hby d15_0) (v := (.ref a1)) rfl rfl rfl ?_
    refine go_virtual (q := 4) X0 hx hZ hown (y := (⟨"java/lang/String", "isLatin1", "()Z"⟩ : MethodName)) (z := (⟨"java/lang/String", "isLatin1", "()Z"⟩ : MethodName)) (a := a1) (w66 hw) (w67 hw) (notFace_of_selects (args := #[]) (mvT hZ (w69 hw))) (w69 hw) (w68 hw) (w8 hw) (w70 hw) (by decide) e0 E (b16 l Z a0 hw a1 zc h0 n0 O0 C0 S_1 hr_2) (argsL := []) (rest := []) rfl (lenOf pd_12 rfl) rfl (by rw [hml]; rfl) (W := 0) (Nat.le_of_eq rfl) (hb hby d15_1) (by decide) (by decide) (by decide) (by decide) rfl ?_
    rintro T1 h1 _ L1 X1 e1 ⟨rfl, M1, K1⟩
    have N1 := Fr.app N0 M1
    refine go_ifN (q := 7) X1 hx (hb hby d15_4) (XT.i0_eq_f (by decide)) rfl ?_
    refine go_aload_n (q := 8) X1 hx (hb hby d15_7) (v := (.ref a1)) rfl rfl rfl ?_
    have f2 : Fld Z h1 a1 "java/lang/String" "value" "[B" (.ref b) := (V.keep K1 nin0)
    refine go_getF (q := 11) (host := "") X1 hx hZ hown (Or.inl (w33 hw)) Via.refl e1 f2 (hb hby d15_8) rfl ?_
    intro T3 X3 e3
    refine go_iload_n (q := 12) X3 hx (hb hby d15_11) (v := (3 : Int32)) rfl rfl ?_
    have f4 : Arv Z h1 b kb .byte (4 : Int32) [(.int x0.toInt8.toInt32), (.int x1.toInt8.toInt32), (.int x2.toInt8.toInt32), (.int x3.toInt8.toInt32)] (.int (0 : Int32)) := (A0.keep K1 nin0)
    have O5 : Old Z n0 h1 := (O0.keep K1 all0)
    refine go_static (q := 15) X3 hx hZ hown (y := (⟨"java/lang/StringLatin1", "charAt", "([BI)C"⟩ : MethodName)) (w71 hw) (w72 hw) (w73 hw) (w74 hw) (by decide) e3 (b17_3 l Z a0 hw b kb sf rsf x0 x1 x2 x3 h1 n0 O5 f4 S_3 hr_7 l3) (argsL := [(.ref b), (.int (3 : Int32))]) (rest := []) rfl (lenOf pd_5 rfl) rfl (by rw [hml]; rfl) (W := 0) (Nat.le_of_eq rfl) (hb hby d15_12) (by decide) (by decide) (by decide) (by decide) rfl ?_
    rintro T6 h6 _ L6 X6 e6 ⟨rfl, M6, K6⟩
    have N6 := Fr.app N1 M6
    refine go_retI X6 hx hret hlk e6 (hb hby d15_15) (by simp) (own_chr hr_7).1 (by decide) (by decide) ?_
    exact ⟨rfl, N6, (((Keep.refl h0 []).trans K1 all0).trans K6 all0)⟩
  · refine go_aload_n (q := 1) X0 hx (hb hby d15_0) (v := (.ref a1)) rfl rfl rfl ?_
    refine go_virtual (q := 4) X0 hx hZ hown (y := (⟨"java/lang/String", "isLatin1", "()Z"⟩ : MethodName)) (z := (⟨"java/lang/String", "isLatin1", "()Z"⟩ : MethodName)) (a := a1) (w66 hw) (w67 hw) (notFace_of_selects (args := #[]) (mvT hZ (w69 hw))) (w69 hw) (w68 hw) (w8 hw) (w70 hw) (by decide) e0 E (b16_1 l Z a0 hw a1 zc h0 n0 O0 C0 S_1 hr_2) (argsL := []) (rest := []) rfl (lenOf pd_12 rfl) rfl (by rw [hml]; rfl) (W := 0) (Nat.le_of_eq rfl) (hb hby d15_1) (by decide) (by decide) (by decide) (by decide) rfl ?_
    rintro T7 h7 _ L7 X7 e7 ⟨rfl, M7, K7⟩
    have N7 := Fr.app N0 M7
    refine go_ifY (q := 16) X7 hx (hb hby d15_4) (XT.i0_eq_t (by decide)) (by decide) (by decide) ?_
    refine go_aload_n (q := 17) X7 hx (hb hby d15_16) (v := (.ref a1)) rfl rfl rfl ?_
    have f8 : Fld Z h7 a1 "java/lang/String" "value" "[B" (.ref b) := (V.keep K7 nin0)
    refine go_getF (q := 20) (host := "") X7 hx hZ hown (Or.inl (w33 hw)) Via.refl e7 f8 (hb hby d15_17) rfl ?_
    intro T9 X9 e9
    refine go_iload_n (q := 21) X9 hx (hb hby d15_20) (v := (3 : Int32)) rfl rfl ?_
    have f10 : Arv Z h7 b kb .byte (8 : Int32) [(.int x0.toInt8.toInt32), (.int (x0 >>> ((8 : Int32) &&& 31)).toInt8.toInt32), (.int x1.toInt8.toInt32), (.int (x1 >>> ((8 : Int32) &&& 31)).toInt8.toInt32), (.int x2.toInt8.toInt32), (.int (x2 >>> ((8 : Int32) &&& 31)).toInt8.toInt32), (.int x3.toInt8.toInt32), (.int (x3 >>> ((8 : Int32) &&& 31)).toInt8.toInt32)] (.int (0 : Int32)) := (A0.keep K7 nin0)
    have O11 : Old Z n0 h7 := (O0.keep K7 all0)
    refine go_static (q := 24) X9 hx hZ hown (y := (⟨"java/lang/StringUTF16", "charAt", "([BI)C"⟩ : MethodName)) (w83 hw) (w84 hw) (w22 hw) (w85 hw) (by decide) e9 (b20_3 l Z a0 hw b kb sf rsf x0 x1 x2 x3 h7 n0 O11 f10 S_3 S_4 S_5 S_6 hr_7) (argsL := [(.ref b), (.int (3 : Int32))]) (rest := []) rfl (lenOf pd_5 rfl) rfl (by rw [hml]; rfl) (W := 0) (Nat.le_of_eq rfl) (hb hby d15_21) (by decide) (by decide) (by decide) (by decide) rfl ?_
    rintro T12 h12 _ L12 X12 e12 ⟨rfl, M12, K12⟩
    have N12 := Fr.app N7 M12
    refine go_retI X12 hx hret hlk e12 (hb hby d15_24) (by simp) (own_chr hr_7).1 (by decide) (by decide) ?_
    exact ⟨rfl, N12, (((Keep.refl h0 []).trans K7 all0).trans K12 all0)⟩
set_option maxRecDepth 65536 in
set_option maxHeartbeats 40000000 in
theorem b8 (l : Launch) (Z : State) (a0 : Array Value) (hw : ∀ d ∈ tables_1, d.before a0 Z = true) (a1 : Addr) (f : Int32) (t : Int32) (h0 : Heap) (n0 : Nat) (O0 : Old Z n0 h0) (hr_0 : (¬ f < t)) :
    Con l Z (⟨"com/example/harborspread/harborspread/Decimals", "isDigits", "(Ljava/lang/String;II)Z"⟩ : MethodName) prog_21_method_11_code 5 (some .boolean) ({ frames := 0, cells := 0, slots := 0, locals := 0 } : Room) #[(.ref a1), (.int f), (.int t)] h0 (fun v h L => v = some (.int (0 : Int32)) ∧ Fr n0 L ∧ Keep h0 h []) := by
  refine Con.of (plainFor_of_name pn_4) ?_
  intro p e s m below meth c s₁ hx hby hml hZ hown hnm hret hlk X0 e0
  have N0 := Fr.nil n0
  refine go_cast (g' := mkF m 0 #[.val (.ref a1), .val (.int f), .val (.int t), .unset, .unset] []) ?_ (by first | (simp [entryFrame, mkF, argsToLocals, Value.category]; done) | rfl)
  refine go_iload_n (q := 1) X0 hx (hb hby d8_0) (v := f) rfl rfl ?_
  refine go_iload_n (q := 2) X0 hx (hb hby d8_1) (v := t) rfl rfl ?_
  refine go_icmpN (q := 5) X0 hx (hb hby d8_2) (XT.ii_lt_f hr_0) rfl ?_
  refine go_iconst (q := 6) X0 hx (hb hby d8_5) (v := (0 : Int32)) (by decide) rfl ?_
  refine go_retI X0 hx hret hlk e0 (hb hby d8_6) (by simp) (by decide) (by decide) (by decide) ?_
  exact ⟨rfl, N0, (Keep.refl h0 [])⟩
set_option maxRecDepth 65536 in
set_option maxHeartbeats 40000000 in
theorem b8_1 (l : Launch) (Z : State) (a0 : Array Value) (hw : ∀ d ∈ tables_1, d.before a0 Z = true) (a1 : Addr) (zc : Int32) (sf : Value) (rsf : sf.isRef = true) (x0 : Int32) (x1 : Int32) (x2 : Int32) (x3 : Int32) (h0 : Heap) (n0 : Nat) (O0 : Old Z n0 h0) (P_0 : Str4 Z h0 a1 x0 x1 x2 x3) (S_1 : Sta Z Z.heap "java/lang/String" "COMPACT_STRINGS" "Z" (.int zc)) (hr_2 : (¬ zc = 0)) (S_3 : Sta Z Z.heap "jdk/internal/util/Preconditions" "SIOOBE_FORMATTER" "Ljava/util/function/BiFunction;" sf) (S_4 : Sta Z Z.heap "java/lang/StringUTF16" "$assertionsDisabled" "Z" (.int (1 : Int32))) (S_5 : Sta Z Z.heap "java/lang/StringUTF16" "HI_BYTE_SHIFT" "I" (.int (0 : Int32))) (S_6 : Sta Z Z.heap "java/lang/StringUTF16" "LO_BYTE_SHIFT" "I" (.int (8 : Int32))) (hr_7 : (0 ≤ x0.toInt ∧ x0.toInt ≤ 65535)) (hr_8 : (0 ≤ x1.toInt ∧ x1.toInt ≤ 65535)) (hr_9 : (0 ≤ x2.toInt ∧ x2.toInt ≤ 65535)) (hr_10 : (0 ≤ x3.toInt ∧ x3.toInt ≤ 65535)) (E_11 : Exa Z h0 a1 "java/lang/String") :
    Con l Z (⟨"com/example/harborspread/harborspread/Decimals", "isDigits", "(Ljava/lang/String;II)Z"⟩ : MethodName) prog_21_method_11_code 5 (some .boolean) ({ frames := 5, cells := 0, slots := 0, locals := 66 } : Room) #[(.ref a1), (.int (0 : Int32)), (.int (1 : Int32))] h0 (fun v h L => ∃ (r : Int32), v = some (.int r) ∧ Fr n0 L ∧ Keep h0 h [] ∧ ((r = 1 ∧ ((¬ x0 < (48 : Int32) ∧ ¬ (57 : Int32) < x0))) ∨ (r = 0 ∧ ¬ ((¬ x0 < (48 : Int32) ∧ ¬ (57 : Int32) < x0))))) := by
  refine Con.of (plainFor_of_name pn_4) ?_
  intro p e s m below meth c s₁ hx hby hml hZ hown hnm hret hlk X0 e0
  have N0 := Fr.nil n0
  refine go_cast (g' := mkF m 0 #[.val (.ref a1), .val (.int (0 : Int32)), .val (.int (1 : Int32)), .unset, .unset] []) ?_ (by first | (simp [entryFrame, mkF, argsToLocals, Value.category]; done) | rfl)
  refine go_iload_n (q := 1) X0 hx (hb hby d8_0) (v := (0 : Int32)) rfl rfl ?_
  refine go_iload_n (q := 2) X0 hx (hb hby d8_1) (v := (1 : Int32)) rfl rfl ?_
  refine go_icmpY (q := 7) X0 hx (hb hby d8_2) (XT.ii_lt_t (by decide)) (by decide) (by decide) ?_
  refine go_iload_n (q := 8) X0 hx (hb hby d8_7) (v := (0 : Int32)) rfl rfl ?_
  refine go_istore_n (q := 9) X0 hx (hb hby d8_8) (l' := #[.val (.ref a1), .val (.int (0 : Int32)), .val (.int (1 : Int32)), .val (.int (0 : Int32)), .unset]) rfl rfl ?_
  refine go_iload_n (q := 10) X0 hx (hb hby d8_9) (v := (0 : Int32)) rfl rfl ?_
  refine go_iload_n (q := 11) X0 hx (hb hby d8_10) (v := (1 : Int32)) rfl rfl ?_
  refine go_icmpN (q := 14) X0 hx (hb hby d8_11) (XT.ii_ge_f (by decide)) rfl ?_
  refine go_aload_n (q := 15) X0 hx (hb hby d8_14) (v := (.ref a1)) rfl rfl rfl ?_
  refine go_iload_n (q := 16) X0 hx (hb hby d8_15) (v := (0 : Int32)) rfl rfl ?_
  refine go_virtual (q := 19) X0 hx hZ hown (y := (⟨"java/lang/String", "charAt", "(I)C"⟩ : MethodName)) (z := (⟨"java/lang/String", "charAt", "(I)C"⟩ : MethodName)) (a := a1) (w61 hw) (w62 hw) (notFace_of_selects (args := #[]) (mvT hZ (w64 hw))) (w64 hw) (w63 hw) (w8 hw) (w65 hw) (by decide) e0 E_11 (b15 l Z a0 hw a1 zc sf rsf x0 x1 x2 x3 h0 n0 O0 P_0 S_1 hr_2 S_3 S_4 S_5 S_6 hr_7) (argsL := [(.int (0 : Int32))]) (rest := []) rfl (lenOf pd_13 rfl) rfl (by rw [hml]; rfl) (W := 0) (Nat.le_of_eq rfl) (hb hby d8_16) (by decide) (by decide) (by decide) (by decide) rfl ?_
  rintro T1 h1 _ L1 X1 e1 ⟨rfl, M1, K1⟩
  have N1 := Fr.app N0 M1
  refine go_istore (q := 21) X1 hx (hb hby d8_19) (l' := #[.val (.ref a1), .val (.int (0 : Int32)), .val (.int (1 : Int32)), .val (.int (0 : Int32)), .val (.int x0)]) rfl rfl ?_
  refine go_iload (q := 23) X1 hx (hb hby d8_21) (v := x0) rfl rfl ?_
  refine go_bipush (q := 25) X1 hx (hb hby d8_23) (v := (48 : Int32)) (by decide) rfl ?_
  by_cases c2 : x0 < (48 : Int32)
  · refine go_icmpY (q := 35) X1 hx (hb hby d8_25) (XT.ii_lt_t c2) (by decide) (by decide) ?_
    refine go_iconst (q := 36) X1 hx (hb hby d8_35) (v := (0 : Int32)) (by decide) rfl ?_
    refine go_retI X1 hx hret hlk e1 (hb hby d8_36) (by simp) (by decide) (by decide) (by decide) ?_
    exact ⟨(0 : Int32), rfl, N1, ((Keep.refl h0 []).trans K1 all0), (by simp [c2])⟩
  · refine go_icmpN (q := 28) X1 hx (hb hby d8_25) (XT.ii_lt_f c2) rfl ?_
    refine go_iload (q := 30) X1 hx (hb hby d8_28) (v := x0) rfl rfl ?_
    refine go_bipush (q := 32) X1 hx (hb hby d8_30) (v := (57 : Int32)) (by decide) rfl ?_
    by_cases c3 : (57 : Int32) < x0
    · refine go_icmpN (q := 35) X1 hx (hb hby d8_32) (XT.ii_le_f c3) rfl ?_
      refine go_iconst (q := 36) X1 hx (hb hby d8_35) (v := (0 : Int32)) (by decide) rfl ?_
      refine go_retI X1 hx hret hlk e1 (hb hby d8_36) (by simp) (by decide) (by decide) (by decide) ?_
      exact ⟨(0 : Int32), rfl, N1, ((Keep.refl h0 []).trans K1 all0), (by simp [c2, c3])⟩
    · refine go_icmpY (q := 37) X1 hx (hb hby d8_32) (XT.ii_le_t c3) (by decide) (by decide) ?_
      refine go_iinc (q := 40) X1 hx (hb hby d8_37) (x := (0 : Int32)) (v := (1 : Int32)) rfl (by first | rfl | decide) (l' := #[.val (.ref a1), .val (.int (0 : Int32)), .val (.int (1 : Int32)), .val (.int (1 : Int32)), .val (.int x0)]) rfl rfl ?_
      refine go_goto (q := 9) X1 hx (hb hby d8_40) (by decide) (by decide) ?_
      refine go_iload_n (q := 10) X1 hx (hb hby d8_9) (v := (1 : Int32)) rfl rfl ?_
      refine go_iload_n (q := 11) X1 hx (hb hby d8_10) (v := (1 : Int32)) rfl rfl ?_
      refine go_icmpY (q := 43) X1 hx (hb hby d8_11) (XT.ii_ge_t (by decide)) (by decide) (by decide) ?_
      refine go_iconst (q := 44) X1 hx (hb hby d8_43) (v := (1 : Int32)) (by decide) rfl ?_
      refine go_retI X1 hx hret hlk e1 (hb hby d8_44) (by simp) (by decide) (by decide) (by decide) ?_
      exact ⟨(1 : Int32), rfl, N1, ((Keep.refl h0 []).trans K1 all0), (by simp [c2, c3])⟩
set_option maxRecDepth 65536 in
set_option maxHeartbeats 40000000 in
theorem b8_2 (l : Launch) (Z : State) (a0 : Array Value) (hw : ∀ d ∈ tables_1, d.before a0 Z = true) (a1 : Addr) (zc : Int32) (sf : Value) (rsf : sf.isRef = true) (x0 : Int32) (x1 : Int32) (x2 : Int32) (x3 : Int32) (h0 : Heap) (n0 : Nat) (O0 : Old Z n0 h0) (P_0 : Str4 Z h0 a1 x0 x1 x2 x3) (S_1 : Sta Z Z.heap "java/lang/String" "COMPACT_STRINGS" "Z" (.int zc)) (hr_2 : (¬ zc = 0)) (S_3 : Sta Z Z.heap "jdk/internal/util/Preconditions" "SIOOBE_FORMATTER" "Ljava/util/function/BiFunction;" sf) (S_4 : Sta Z Z.heap "java/lang/StringUTF16" "$assertionsDisabled" "Z" (.int (1 : Int32))) (S_5 : Sta Z Z.heap "java/lang/StringUTF16" "HI_BYTE_SHIFT" "I" (.int (0 : Int32))) (S_6 : Sta Z Z.heap "java/lang/StringUTF16" "LO_BYTE_SHIFT" "I" (.int (8 : Int32))) (hr_7 : (0 ≤ x0.toInt ∧ x0.toInt ≤ 65535)) (hr_8 : (0 ≤ x1.toInt ∧ x1.toInt ≤ 65535)) (hr_9 : (0 ≤ x2.toInt ∧ x2.toInt ≤ 65535)) (hr_10 : (0 ≤ x3.toInt ∧ x3.toInt ≤ 65535)) (E_11 : Exa Z h0 a1 "java/lang/String") :
    Con l Z (⟨"com/example/harborspread/harborspread/Decimals", "isDigits", "(Ljava/lang/String;II)Z"⟩ : MethodName) prog_21_method_11_code 5 (some .boolean) ({ frames := 5, cells := 0, slots := 0, locals := 66 } : Room) #[(.ref a1), (.int (0 : Int32)), (.int (2 : Int32))] h0 (fun v h L => ∃ (r : Int32), v = some (.int r) ∧ Fr n0 L ∧ Keep h0 h [] ∧ ((r = 1 ∧ ((¬ x0 < (48 : Int32) ∧ ¬ (57 : Int32) < x0) ∧ (¬ x1 < (48 : Int32) ∧ ¬ (57 : Int32) < x1))) ∨ (r = 0 ∧ ¬ ((¬ x0 < (48 : Int32) ∧ ¬ (57 : Int32) < x0) ∧ (¬ x1 < (48 : Int32) ∧ ¬ (57 : Int32) < x1))))) := by
  refine Con.of (plainFor_of_name pn_4) ?_
  intro p e s m below meth c s₁ hx hby hml hZ hown hnm hret hlk X0 e0
  have N0 := Fr.nil n0
  refine go_cast (g' := mkF m 0 #[.val (.ref a1), .val (.int (0 : Int32)), .val (.int (2 : Int32)), .unset, .unset] []) ?_ (by first | (simp [entryFrame, mkF, argsToLocals, Value.category]; done) | rfl)
  refine go_iload_n (q := 1) X0 hx (hb hby d8_0) (v := (0 : Int32)) rfl rfl ?_
  refine go_iload_n (q := 2) X0 hx (hb hby d8_1) (v := (2 : Int32)) rfl rfl ?_
  refine go_icmpY (q := 7) X0 hx (hb hby d8_2) (XT.ii_lt_t (by decide)) (by decide) (by decide) ?_
  refine go_iload_n (q := 8) X0 hx (hb hby d8_7) (v := (0 : Int32)) rfl rfl ?_
  refine go_istore_n (q := 9) X0 hx (hb hby d8_8) (l' := #[.val (.ref a1), .val (.int (0 : Int32)), .val (.int (2 : Int32)), .val (.int (0 : Int32)), .unset]) rfl rfl ?_
  refine go_iload_n (q := 10) X0 hx (hb hby d8_9) (v := (0 : Int32)) rfl rfl ?_
  refine go_iload_n (q := 11) X0 hx (hb hby d8_10) (v := (2 : Int32)) rfl rfl ?_
  refine go_icmpN (q := 14) X0 hx (hb hby d8_11) (XT.ii_ge_f (by decide)) rfl ?_
  refine go_aload_n (q := 15) X0 hx (hb hby d8_14) (v := (.ref a1)) rfl rfl rfl ?_
  refine go_iload_n (q := 16) X0 hx (hb hby d8_15) (v := (0 : Int32)) rfl rfl ?_
  refine go_virtual (q := 19) X0 hx hZ hown (y := (⟨"java/lang/String", "charAt", "(I)C"⟩ : MethodName)) (z := (⟨"java/lang/String", "charAt", "(I)C"⟩ : MethodName)) (a := a1) (w61 hw) (w62 hw) (notFace_of_selects (args := #[]) (mvT hZ (w64 hw))) (w64 hw) (w63 hw) (w8 hw) (w65 hw) (by decide) e0 E_11 (b15 l Z a0 hw a1 zc sf rsf x0 x1 x2 x3 h0 n0 O0 P_0 S_1 hr_2 S_3 S_4 S_5 S_6 hr_7) (argsL := [(.int (0 : Int32))]) (rest := []) rfl (lenOf pd_13 rfl) rfl (by rw [hml]; rfl) (W := 0) (Nat.le_of_eq rfl) (hb hby d8_16) (by decide) (by decide) (by decide) (by decide) rfl ?_
  rintro T1 h1 _ L1 X1 e1 ⟨rfl, M1, K1⟩
  have N1 := Fr.app N0 M1
  refine go_istore (q := 21) X1 hx (hb hby d8_19) (l' := #[.val (.ref a1), .val (.int (0 : Int32)), .val (.int (2 : Int32)), .val (.int (0 : Int32)), .val (.int x0)]) rfl rfl ?_
  refine go_iload (q := 23) X1 hx (hb hby d8_21) (v := x0) rfl rfl ?_
  refine go_bipush (q := 25) X1 hx (hb hby d8_23) (v := (48 : Int32)) (by decide) rfl ?_
  by_cases c2 : x0 < (48 : Int32)
  · refine go_icmpY (q := 35) X1 hx (hb hby d8_25) (XT.ii_lt_t c2) (by decide) (by decide) ?_
    refine go_iconst (q := 36) X1 hx (hb hby d8_35) (v := (0 : Int32)) (by decide) rfl ?_
    refine go_retI X1 hx hret hlk e1 (hb hby d8_36) (by simp) (by decide) (by decide) (by decide) ?_
    exact ⟨(0 : Int32), rfl, N1, ((Keep.refl h0 []).trans K1 all0), (by simp [c2])⟩
  · refine go_icmpN (q := 28) X1 hx (hb hby d8_25) (XT.ii_lt_f c2) rfl ?_
    refine go_iload (q := 30) X1 hx (hb hby d8_28) (v := x0) rfl rfl ?_
    refine go_bipush (q := 32) X1 hx (hb hby d8_30) (v := (57 : Int32)) (by decide) rfl ?_
    by_cases c3 : (57 : Int32) < x0
    · refine go_icmpN (q := 35) X1 hx (hb hby d8_32) (XT.ii_le_f c3) rfl ?_
      refine go_iconst (q := 36) X1 hx (hb hby d8_35) (v := (0 : Int32)) (by decide) rfl ?_
      refine go_retI X1 hx hret hlk e1 (hb hby d8_36) (by simp) (by decide) (by decide) (by decide) ?_
      exact ⟨(0 : Int32), rfl, N1, ((Keep.refl h0 []).trans K1 all0), (by simp [c2, c3])⟩
    · refine go_icmpY (q := 37) X1 hx (hb hby d8_32) (XT.ii_le_t c3) (by decide) (by decide) ?_
      refine go_iinc (q := 40) X1 hx (hb hby d8_37) (x := (0 : Int32)) (v := (1 : Int32)) rfl (by first | rfl | decide) (l' := #[.val (.ref a1), .val (.int (0 : Int32)), .val (.int (2 : Int32)), .val (.int (1 : Int32)), .val (.int x0)]) rfl rfl ?_
      refine go_goto (q := 9) X1 hx (hb hby d8_40) (by decide) (by decide) ?_
      refine go_iload_n (q := 10) X1 hx (hb hby d8_9) (v := (1 : Int32)) rfl rfl ?_
      refine go_iload_n (q := 11) X1 hx (hb hby d8_10) (v := (2 : Int32)) rfl rfl ?_
      refine go_icmpN (q := 14) X1 hx (hb hby d8_11) (XT.ii_ge_f (by decide)) rfl ?_
      refine go_aload_n (q := 15) X1 hx (hb hby d8_14) (v := (.ref a1)) rfl rfl rfl ?_
      refine go_iload_n (q := 16) X1 hx (hb hby d8_15) (v := (1 : Int32)) rfl rfl ?_
      have f4 : Exa Z h1 a1 "java/lang/String" := (E_11.keep K1)
      have f5 : Str4 Z h1 a1 x0 x1 x2 x3 := (Str4.keep P_0 K1)
      have O6 : Old Z n0 h1 := (O0.keep K1 all0)
      refine go_virtual (q := 19) X1 hx hZ hown (y := (⟨"java/lang/String", "charAt", "(I)C"⟩ : MethodName)) (z := (⟨"java/lang/String", "charAt", "(I)C"⟩ : MethodName)) (a := a1) (w61 hw) (w62 hw) (notFace_of_selects (args := #[]) (mvT hZ (w64 hw))) (w64 hw) (w63 hw) (w8 hw) (w65 hw) (by decide) e1 f4 (b15_1 l Z a0 hw a1 zc sf rsf x0 x1 x2 x3 h1 n0 O6 f5 S_1 hr_2 S_3 S_4 S_5 S_6 hr_8) (argsL := [(.int (1 : Int32))]) (rest := []) rfl (lenOf pd_13 rfl) rfl (by rw [hml]; rfl) (W := 0) (Nat.le_of_eq rfl) (hb hby d8_16) (by decide) (by decide) (by decide) (by decide) rfl ?_
      rintro T7 h7 _ L7 X7 e7 ⟨rfl, M7, K7⟩
      have N7 := Fr.app N1 M7
      refine go_istore (q := 21) X7 hx (hb hby d8_19) (l' := #[.val (.ref a1), .val (.int (0 : Int32)), .val (.int (2 : Int32)), .val (.int (1 : Int32)), .val (.int x1)]) rfl rfl ?_
      refine go_iload (q := 23) X7 hx (hb hby d8_21) (v := x1) rfl rfl ?_
      refine go_bipush (q := 25) X7 hx (hb hby d8_23) (v := (48 : Int32)) (by decide) rfl ?_
      by_cases c8 : x1 < (48 : Int32)
      · refine go_icmpY (q := 35) X7 hx (hb hby d8_25) (XT.ii_lt_t c8) (by decide) (by decide) ?_
        refine go_iconst (q := 36) X7 hx (hb hby d8_35) (v := (0 : Int32)) (by decide) rfl ?_
        refine go_retI X7 hx hret hlk e7 (hb hby d8_36) (by simp) (by decide) (by decide) (by decide) ?_
        exact ⟨(0 : Int32), rfl, N7, (((Keep.refl h0 []).trans K1 all0).trans K7 all0), (by simp [c2, c3, c8])⟩
      · refine go_icmpN (q := 28) X7 hx (hb hby d8_25) (XT.ii_lt_f c8) rfl ?_
        refine go_iload (q := 30) X7 hx (hb hby d8_28) (v := x1) rfl rfl ?_
        refine go_bipush (q := 32) X7 hx (hb hby d8_30) (v := (57 : Int32)) (by decide) rfl ?_
        by_cases c9 : (57 : Int32) < x1
        · refine go_icmpN (q := 35) X7 hx (hb hby d8_32) (XT.ii_le_f c9) rfl ?_
          refine go_iconst (q := 36) X7 hx (hb hby d8_35) (v := (0 : Int32)) (by decide) rfl ?_
          refine go_retI X7 hx hret hlk e7 (hb hby d8_36) (by simp) (by decide) (by decide) (by decide) ?_
          exact ⟨(0 : Int32), rfl, N7, (((Keep.refl h0 []).trans K1 all0).trans K7 all0), (by simp [c2, c3, c8, c9])⟩
        · refine go_icmpY (q := 37) X7 hx (hb hby d8_32) (XT.ii_le_t c9) (by decide) (by decide) ?_
          refine go_iinc (q := 40) X7 hx (hb hby d8_37) (x := (1 : Int32)) (v := (2 : Int32)) rfl (by first | rfl | decide) (l' := #[.val (.ref a1), .val (.int (0 : Int32)), .val (.int (2 : Int32)), .val (.int (2 : Int32)), .val (.int x1)]) rfl rfl ?_
          refine go_goto (q := 9) X7 hx (hb hby d8_40) (by decide) (by decide) ?_
          refine go_iload_n (q := 10) X7 hx (hb hby d8_9) (v := (2 : Int32)) rfl rfl ?_
          refine go_iload_n (q := 11) X7 hx (hb hby d8_10) (v := (2 : Int32)) rfl rfl ?_
          refine go_icmpY (q := 43) X7 hx (hb hby d8_11) (XT.ii_ge_t (by decide)) (by decide) (by decide) ?_
          refine go_iconst (q := 44) X7 hx (hb hby d8_43) (v := (1 : Int32)) (by decide) rfl ?_
          refine go_retI X7 hx hret hlk e7 (hb hby d8_44) (by simp) (by decide) (by decide) (by decide) ?_
          exact ⟨(1 : Int32), rfl, N7, (((Keep.refl h0 []).trans K1 all0).trans K7 all0), (by simp [c2, c3, c8, c9])⟩
set_option maxRecDepth 65536 in
set_option maxHeartbeats 40000000 in
theorem b8_3 (l : Launch) (Z : State) (a0 : Array Value) (hw : ∀ d ∈ tables_1, d.before a0 Z = true) (a1 : Addr) (zc : Int32) (sf : Value) (rsf : sf.isRef = true) (x0 : Int32) (x1 : Int32) (x2 : Int32) (x3 : Int32) (h0 : Heap) (n0 : Nat) (O0 : Old Z n0 h0) (P_0 : Str4 Z h0 a1 x0 x1 x2 x3) (S_1 : Sta Z Z.heap "java/lang/String" "COMPACT_STRINGS" "Z" (.int zc)) (hr_2 : (¬ zc = 0)) (S_3 : Sta Z Z.heap "jdk/internal/util/Preconditions" "SIOOBE_FORMATTER" "Ljava/util/function/BiFunction;" sf) (S_4 : Sta Z Z.heap "java/lang/StringUTF16" "$assertionsDisabled" "Z" (.int (1 : Int32))) (S_5 : Sta Z Z.heap "java/lang/StringUTF16" "HI_BYTE_SHIFT" "I" (.int (0 : Int32))) (S_6 : Sta Z Z.heap "java/lang/StringUTF16" "LO_BYTE_SHIFT" "I" (.int (8 : Int32))) (hr_7 : (0 ≤ x0.toInt ∧ x0.toInt ≤ 65535)) (hr_8 : (0 ≤ x1.toInt ∧ x1.toInt ≤ 65535)) (hr_9 : (0 ≤ x2.toInt ∧ x2.toInt ≤ 65535)) (hr_10 : (0 ≤ x3.toInt ∧ x3.toInt ≤ 65535)) (E_11 : Exa Z h0 a1 "java/lang/String") :
    Con l Z (⟨"com/example/harborspread/harborspread/Decimals", "isDigits", "(Ljava/lang/String;II)Z"⟩ : MethodName) prog_21_method_11_code 5 (some .boolean) ({ frames := 5, cells := 0, slots := 0, locals := 66 } : Room) #[(.ref a1), (.int (0 : Int32)), (.int (3 : Int32))] h0 (fun v h L => ∃ (r : Int32), v = some (.int r) ∧ Fr n0 L ∧ Keep h0 h [] ∧ ((r = 1 ∧ ((¬ x0 < (48 : Int32) ∧ ¬ (57 : Int32) < x0) ∧ (¬ x1 < (48 : Int32) ∧ ¬ (57 : Int32) < x1) ∧ (¬ x2 < (48 : Int32) ∧ ¬ (57 : Int32) < x2))) ∨ (r = 0 ∧ ¬ ((¬ x0 < (48 : Int32) ∧ ¬ (57 : Int32) < x0) ∧ (¬ x1 < (48 : Int32) ∧ ¬ (57 : Int32) < x1) ∧ (¬ x2 < (48 : Int32) ∧ ¬ (57 : Int32) < x2))))) := by
  refine Con.of (plainFor_of_name pn_4) ?_
  intro p e s m below meth c s₁ hx hby hml hZ hown hnm hret hlk X0 e0
  have N0 := Fr.nil n0
  refine go_cast (g' := mkF m 0 #[.val (.ref a1), .val (.int (0 : Int32)), .val (.int (3 : Int32)), .unset, .unset] []) ?_ (by first | (simp [entryFrame, mkF, argsToLocals, Value.category]; done) | rfl)
  refine go_iload_n (q := 1) X0 hx (hb hby d8_0) (v := (0 : Int32)) rfl rfl ?_
  refine go_iload_n (q := 2) X0 hx (hb hby d8_1) (v := (3 : Int32)) rfl rfl ?_
  refine go_icmpY (q := 7) X0 hx (hb hby d8_2) (XT.ii_lt_t (by decide)) (by decide) (by decide) ?_
  refine go_iload_n (q := 8) X0 hx (hb hby d8_7) (v := (0 : Int32)) rfl rfl ?_
  refine go_istore_n (q := 9) X0 hx (hb hby d8_8) (l' := #[.val (.ref a1), .val (.int (0 : Int32)), .val (.int (3 : Int32)), .val (.int (0 : Int32)), .unset]) rfl rfl ?_
  refine go_iload_n (q := 10) X0 hx (hb hby d8_9) (v := (0 : Int32)) rfl rfl ?_
  refine go_iload_n (q := 11) X0 hx (hb hby d8_10) (v := (3 : Int32)) rfl rfl ?_
  refine go_icmpN (q := 14) X0 hx (hb hby d8_11) (XT.ii_ge_f (by decide)) rfl ?_
  refine go_aload_n (q := 15) X0 hx (hb hby d8_14) (v := (.ref a1)) rfl rfl rfl ?_
  refine go_iload_n (q := 16) X0 hx (hb hby d8_15) (v := (0 : Int32)) rfl rfl ?_
  refine go_virtual (q := 19) X0 hx hZ hown (y := (⟨"java/lang/String", "charAt", "(I)C"⟩ : MethodName)) (z := (⟨"java/lang/String", "charAt", "(I)C"⟩ : MethodName)) (a := a1) (w61 hw) (w62 hw) (notFace_of_selects (args := #[]) (mvT hZ (w64 hw))) (w64 hw) (w63 hw) (w8 hw) (w65 hw) (by decide) e0 E_11 (b15 l Z a0 hw a1 zc sf rsf x0 x1 x2 x3 h0 n0 O0 P_0 S_1 hr_2 S_3 S_4 S_5 S_6 hr_7) (argsL := [(.int (0 : Int32))]) (rest := []) rfl (lenOf pd_13 rfl) rfl (by rw [hml]; rfl) (W := 0) (Nat.le_of_eq rfl) (hb hby d8_16) (by decide) (by decide) (by decide) (by decide) rfl ?_
  rintro T1 h1 _ L1 X1 e1 ⟨rfl, M1, K1⟩
  have N1 := Fr.app N0 M1
  refine go_istore (q := 21) X1 hx (hb hby d8_19) (l' := #[.val (.ref a1), .val (.int (0 : Int32)), .val (.int (3 : Int32)), .val (.int (0 : Int32)), .val (.int x0)]) rfl rfl ?_
  refine go_iload (q := 23) X1 hx (hb hby d8_21) (v := x0) rfl rfl ?_
  refine go_bipush (q := 25) X1 hx (hb hby d8_23) (v := (48 : Int32)) (by decide) rfl ?_
  by_cases c2 : x0 < (48 : Int32)
  · refine go_icmpY (q := 35) X1 hx (hb hby d8_25) (XT.ii_lt_t c2) (by decide) (by decide) ?_
    refine go_iconst (q := 36) X1 hx (hb hby d8_35) (v := (0 : Int32)) (by decide) rfl ?_
    refine go_retI X1 hx hret hlk e1 (hb hby d8_36) (by simp) (by decide) (by decide) (by decide) ?_
    exact ⟨(0 : Int32), rfl, N1, ((Keep.refl h0 []).trans K1 all0), (by simp [c2])⟩
  · refine go_icmpN (q := 28) X1 hx (hb hby d8_25) (XT.ii_lt_f c2) rfl ?_
    refine go_iload (q := 30) X1 hx (hb hby d8_28) (v := x0) rfl rfl ?_
    refine go_bipush (q := 32) X1 hx (hb hby d8_30) (v := (57 : Int32)) (by decide) rfl ?_
    by_cases c3 : (57 : Int32) < x0
    · refine go_icmpN (q := 35) X1 hx (hb hby d8_32) (XT.ii_le_f c3) rfl ?_
      refine go_iconst (q := 36) X1 hx (hb hby d8_35) (v := (0 : Int32)) (by decide) rfl ?_
      refine go_retI X1 hx hret hlk e1 (hb hby d8_36) (by simp) (by decide) (by decide) (by decide) ?_
      exact ⟨(0 : Int32), rfl, N1, ((Keep.refl h0 []).trans K1 all0), (by simp [c2, c3])⟩
    · refine go_icmpY (q := 37) X1 hx (hb hby d8_32) (XT.ii_le_t c3) (by decide) (by decide) ?_
      refine go_iinc (q := 40) X1 hx (hb hby d8_37) (x := (0 : Int32)) (v := (1 : Int32)) rfl (by first | rfl | decide) (l' := #[.val (.ref a1), .val (.int (0 : Int32)), .val (.int (3 : Int32)), .val (.int (1 : Int32)), .val (.int x0)]) rfl rfl ?_
      refine go_goto (q := 9) X1 hx (hb hby d8_40) (by decide) (by decide) ?_
      refine go_iload_n (q := 10) X1 hx (hb hby d8_9) (v := (1 : Int32)) rfl rfl ?_
      refine go_iload_n (q := 11) X1 hx (hb hby d8_10) (v := (3 : Int32)) rfl rfl ?_
      refine go_icmpN (q := 14) X1 hx (hb hby d8_11) (XT.ii_ge_f (by decide)) rfl ?_
      refine go_aload_n (q := 15) X1 hx (hb hby d8_14) (v := (.ref a1)) rfl rfl rfl ?_
      refine go_iload_n (q := 16) X1 hx (hb hby d8_15) (v := (1 : Int32)) rfl rfl ?_
      have f4 : Exa Z h1 a1 "java/lang/String" := (E_11.keep K1)
      have f5 : Str4 Z h1 a1 x0 x1 x2 x3 := (Str4.keep P_0 K1)
      have O6 : Old Z n0 h1 := (O0.keep K1 all0)
      refine go_virtual (q := 19) X1 hx hZ hown (y := (⟨"java/lang/String", "charAt", "(I)C"⟩ : MethodName)) (z := (⟨"java/lang/String", "charAt", "(I)C"⟩ : MethodName)) (a := a1) (w61 hw) (w62 hw) (notFace_of_selects (args := #[]) (mvT hZ (w64 hw))) (w64 hw) (w63 hw) (w8 hw) (w65 hw) (by decide) e1 f4 (b15_1 l Z a0 hw a1 zc sf rsf x0 x1 x2 x3 h1 n0 O6 f5 S_1 hr_2 S_3 S_4 S_5 S_6 hr_8) (argsL := [(.int (1 : Int32))]) (rest := []) rfl (lenOf pd_13 rfl) rfl (by rw [hml]; rfl) (W := 0) (Nat.le_of_eq rfl) (hb hby d8_16) (by decide) (by decide) (by decide) (by decide) rfl ?_
      rintro T7 h7 _ L7 X7 e7 ⟨rfl, M7, K7⟩
      have N7 := Fr.app N1 M7
      refine go_istore (q := 21) X7 hx (hb hby d8_19) (l' := #[.val (.ref a1), .val (.int (0 : Int32)), .val (.int (3 : Int32)), .val (.int (1 : Int32)), .val (.int x1)]) rfl rfl ?_
      refine go_iload (q := 23) X7 hx (hb hby d8_21) (v := x1) rfl rfl ?_
      refine go_bipush (q := 25) X7 hx (hb hby d8_23) (v := (48 : Int32)) (by decide) rfl ?_
      by_cases c8 : x1 < (48 : Int32)
      · refine go_icmpY (q := 35) X7 hx (hb hby d8_25) (XT.ii_lt_t c8) (by decide) (by decide) ?_
        refine go_iconst (q := 36) X7 hx (hb hby d8_35) (v := (0 : Int32)) (by decide) rfl ?_
        refine go_retI X7 hx hret hlk e7 (hb hby d8_36) (by simp) (by decide) (by decide) (by decide) ?_
        exact ⟨(0 : Int32), rfl, N7, (((Keep.refl h0 []).trans K1 all0).trans K7 all0), (by simp [c2, c3, c8])⟩
      · refine go_icmpN (q := 28) X7 hx (hb hby d8_25) (XT.ii_lt_f c8) rfl ?_
        refine go_iload (q := 30) X7 hx (hb hby d8_28) (v := x1) rfl rfl ?_
        refine go_bipush (q := 32) X7 hx (hb hby d8_30) (v := (57 : Int32)) (by decide) rfl ?_
        by_cases c9 : (57 : Int32) < x1
        · refine go_icmpN (q := 35) X7 hx (hb hby d8_32) (XT.ii_le_f c9) rfl ?_
          refine go_iconst (q := 36) X7 hx (hb hby d8_35) (v := (0 : Int32)) (by decide) rfl ?_
          refine go_retI X7 hx hret hlk e7 (hb hby d8_36) (by simp) (by decide) (by decide) (by decide) ?_
          exact ⟨(0 : Int32), rfl, N7, (((Keep.refl h0 []).trans K1 all0).trans K7 all0), (by simp [c2, c3, c8, c9])⟩
        · refine go_icmpY (q := 37) X7 hx (hb hby d8_32) (XT.ii_le_t c9) (by decide) (by decide) ?_
          refine go_iinc (q := 40) X7 hx (hb hby d8_37) (x := (1 : Int32)) (v := (2 : Int32)) rfl (by first | rfl | decide) (l' := #[.val (.ref a1), .val (.int (0 : Int32)), .val (.int (3 : Int32)), .val (.int (2 : Int32)), .val (.int x1)]) rfl rfl ?_
          refine go_goto (q := 9) X7 hx (hb hby d8_40) (by decide) (by decide) ?_
          refine go_iload_n (q := 10) X7 hx (hb hby d8_9) (v := (2 : Int32)) rfl rfl ?_
          refine go_iload_n (q := 11) X7 hx (hb hby d8_10) (v := (3 : Int32)) rfl rfl ?_
          refine go_icmpN (q := 14) X7 hx (hb hby d8_11) (XT.ii_ge_f (by decide)) rfl ?_
          refine go_aload_n (q := 15) X7 hx (hb hby d8_14) (v := (.ref a1)) rfl rfl rfl ?_
          refine go_iload_n (q := 16) X7 hx (hb hby d8_15) (v := (2 : Int32)) rfl rfl ?_
          have f10 : Exa Z h7 a1 "java/lang/String" := (f4.keep K7)
          have f11 : Str4 Z h7 a1 x0 x1 x2 x3 := (Str4.keep f5 K7)
          have O12 : Old Z n0 h7 := (O6.keep K7 all0)
          refine go_virtual (q := 19) X7 hx hZ hown (y := (⟨"java/lang/String", "charAt", "(I)C"⟩ : MethodName)) (z := (⟨"java/lang/String", "charAt", "(I)C"⟩ : MethodName)) (a := a1) (w61 hw) (w62 hw) (notFace_of_selects (args := #[]) (mvT hZ (w64 hw))) (w64 hw) (w63 hw) (w8 hw) (w65 hw) (by decide) e7 f10 (b15_2 l Z a0 hw a1 zc sf rsf x0 x1 x2 x3 h7 n0 O12 f11 S_1 hr_2 S_3 S_4 S_5 S_6 hr_9) (argsL := [(.int (2 : Int32))]) (rest := []) rfl (lenOf pd_13 rfl) rfl (by rw [hml]; rfl) (W := 0) (Nat.le_of_eq rfl) (hb hby d8_16) (by decide) (by decide) (by decide) (by decide) rfl ?_
          rintro T13 h13 _ L13 X13 e13 ⟨rfl, M13, K13⟩
          have N13 := Fr.app N7 M13
          refine go_istore (q := 21) X13 hx (hb hby d8_19) (l' := #[.val (.ref a1), .val (.int (0 : Int32)), .val (.int (3 : Int32)), .val (.int (2 : Int32)), .val (.int x2)]) rfl rfl ?_
          refine go_iload (q := 23) X13 hx (hb hby d8_21) (v := x2) rfl rfl ?_
          refine go_bipush (q := 25) X13 hx (hb hby d8_23) (v := (48 : Int32)) (by decide) rfl ?_
          by_cases c14 : x2 < (48 : Int32)
          · refine go_icmpY (q := 35) X13 hx (hb hby d8_25) (XT.ii_lt_t c14) (by decide) (by decide) ?_
            refine go_iconst (q := 36) X13 hx (hb hby d8_35) (v := (0 : Int32)) (by decide) rfl ?_
            refine go_retI X13 hx hret hlk e13 (hb hby d8_36) (by simp) (by decide) (by decide) (by decide) ?_
            exact ⟨(0 : Int32), rfl, N13, ((((Keep.refl h0 []).trans K1 all0).trans K7 all0).trans K13 all0), (by simp [c2, c3, c8, c9, c14])⟩
          · refine go_icmpN (q := 28) X13 hx (hb hby d8_25) (XT.ii_lt_f c14) rfl ?_
            refine go_iload (q := 30) X13 hx (hb hby d8_28) (v := x2) rfl rfl ?_
            refine go_bipush (q := 32) X13 hx (hb hby d8_30) (v := (57 : Int32)) (by decide) rfl ?_
            by_cases c15 : (57 : Int32) < x2
            · refine go_icmpN (q := 35) X13 hx (hb hby d8_32) (XT.ii_le_f c15) rfl ?_
              refine go_iconst (q := 36) X13 hx (hb hby d8_35) (v := (0 : Int32)) (by decide) rfl ?_
              refine go_retI X13 hx hret hlk e13 (hb hby d8_36) (by simp) (by decide) (by decide) (by decide) ?_
              exact ⟨(0 : Int32), rfl, N13, ((((Keep.refl h0 []).trans K1 all0).trans K7 all0).trans K13 all0), (by simp [c2, c3, c8, c9, c14, c15])⟩
            · refine go_icmpY (q := 37) X13 hx (hb hby d8_32) (XT.ii_le_t c15) (by decide) (by decide) ?_
              refine go_iinc (q := 40) X13 hx (hb hby d8_37) (x := (2 : Int32)) (v := (3 : Int32)) rfl (by first | rfl | decide) (l' := #[.val (.ref a1), .val (.int (0 : Int32)), .val (.int (3 : Int32)), .val (.int (3 : Int32)), .val (.int x2)]) rfl rfl ?_
              refine go_goto (q := 9) X13 hx (hb hby d8_40) (by decide) (by decide) ?_
              refine go_iload_n (q := 10) X13 hx (hb hby d8_9) (v := (3 : Int32)) rfl rfl ?_
              refine go_iload_n (q := 11) X13 hx (hb hby d8_10) (v := (3 : Int32)) rfl rfl ?_
              refine go_icmpY (q := 43) X13 hx (hb hby d8_11) (XT.ii_ge_t (by decide)) (by decide) (by decide) ?_
              refine go_iconst (q := 44) X13 hx (hb hby d8_43) (v := (1 : Int32)) (by decide) rfl ?_
              refine go_retI X13 hx hret hlk e13 (hb hby d8_44) (by simp) (by decide) (by decide) (by decide) ?_
              exact ⟨(1 : Int32), rfl, N13, ((((Keep.refl h0 []).trans K1 all0).trans K7 all0).trans K13 all0), (by simp [c2, c3, c8, c9, c14, c15])⟩
set_option maxRecDepth 65536 in
set_option maxHeartbeats 40000000 in
theorem b8_4 (l : Launch) (Z : State) (a0 : Array Value) (hw : ∀ d ∈ tables_1, d.before a0 Z = true) (a1 : Addr) (zc : Int32) (sf : Value) (rsf : sf.isRef = true) (x0 : Int32) (x1 : Int32) (x2 : Int32) (x3 : Int32) (h0 : Heap) (n0 : Nat) (O0 : Old Z n0 h0) (P_0 : Str4 Z h0 a1 x0 x1 x2 x3) (S_1 : Sta Z Z.heap "java/lang/String" "COMPACT_STRINGS" "Z" (.int zc)) (hr_2 : (¬ zc = 0)) (S_3 : Sta Z Z.heap "jdk/internal/util/Preconditions" "SIOOBE_FORMATTER" "Ljava/util/function/BiFunction;" sf) (S_4 : Sta Z Z.heap "java/lang/StringUTF16" "$assertionsDisabled" "Z" (.int (1 : Int32))) (S_5 : Sta Z Z.heap "java/lang/StringUTF16" "HI_BYTE_SHIFT" "I" (.int (0 : Int32))) (S_6 : Sta Z Z.heap "java/lang/StringUTF16" "LO_BYTE_SHIFT" "I" (.int (8 : Int32))) (hr_7 : (0 ≤ x0.toInt ∧ x0.toInt ≤ 65535)) (hr_8 : (0 ≤ x1.toInt ∧ x1.toInt ≤ 65535)) (hr_9 : (0 ≤ x2.toInt ∧ x2.toInt ≤ 65535)) (hr_10 : (0 ≤ x3.toInt ∧ x3.toInt ≤ 65535)) (E_11 : Exa Z h0 a1 "java/lang/String") :
    Con l Z (⟨"com/example/harborspread/harborspread/Decimals", "isDigits", "(Ljava/lang/String;II)Z"⟩ : MethodName) prog_21_method_11_code 5 (some .boolean) ({ frames := 5, cells := 0, slots := 0, locals := 66 } : Room) #[(.ref a1), (.int (0 : Int32)), (.int (4 : Int32))] h0 (fun v h L => ∃ (r : Int32), v = some (.int r) ∧ Fr n0 L ∧ Keep h0 h [] ∧ ((r = 1 ∧ ((¬ x0 < (48 : Int32) ∧ ¬ (57 : Int32) < x0) ∧ (¬ x1 < (48 : Int32) ∧ ¬ (57 : Int32) < x1) ∧ (¬ x2 < (48 : Int32) ∧ ¬ (57 : Int32) < x2) ∧ (¬ x3 < (48 : Int32) ∧ ¬ (57 : Int32) < x3))) ∨ (r = 0 ∧ ¬ ((¬ x0 < (48 : Int32) ∧ ¬ (57 : Int32) < x0) ∧ (¬ x1 < (48 : Int32) ∧ ¬ (57 : Int32) < x1) ∧ (¬ x2 < (48 : Int32) ∧ ¬ (57 : Int32) < x2) ∧ (¬ x3 < (48 : Int32) ∧ ¬ (57 : Int32) < x3))))) := by
  refine Con.of (plainFor_of_name pn_4) ?_
  intro p e s m below meth c s₁ hx hby hml hZ hown hnm hret hlk X0 e0
  have N0 := Fr.nil n0
  refine go_cast (g' := mkF m 0 #[.val (.ref a1), .val (.int (0 : Int32)), .val (.int (4 : Int32)), .unset, .unset] []) ?_ (by first | (simp [entryFrame, mkF, argsToLocals, Value.category]; done) | rfl)
  refine go_iload_n (q := 1) X0 hx (hb hby d8_0) (v := (0 : Int32)) rfl rfl ?_
  refine go_iload_n (q := 2) X0 hx (hb hby d8_1) (v := (4 : Int32)) rfl rfl ?_
  refine go_icmpY (q := 7) X0 hx (hb hby d8_2) (XT.ii_lt_t (by decide)) (by decide) (by decide) ?_
  refine go_iload_n (q := 8) X0 hx (hb hby d8_7) (v := (0 : Int32)) rfl rfl ?_
  refine go_istore_n (q := 9) X0 hx (hb hby d8_8) (l' := #[.val (.ref a1), .val (.int (0 : Int32)), .val (.int (4 : Int32)), .val (.int (0 : Int32)), .unset]) rfl rfl ?_
  refine go_iload_n (q := 10) X0 hx (hb hby d8_9) (v := (0 : Int32)) rfl rfl ?_
  refine go_iload_n (q := 11) X0 hx (hb hby d8_10) (v := (4 : Int32)) rfl rfl ?_
  refine go_icmpN (q := 14) X0 hx (hb hby d8_11) (XT.ii_ge_f (by decide)) rfl ?_
  refine go_aload_n (q := 15) X0 hx (hb hby d8_14) (v := (.ref a1)) rfl rfl rfl ?_
  refine go_iload_n (q := 16) X0 hx (hb hby d8_15) (v := (0 : Int32)) rfl rfl ?_
  refine go_virtual (q := 19) X0 hx hZ hown (y := (⟨"java/lang/String", "charAt", "(I)C"⟩ : MethodName)) (z := (⟨"java/lang/String", "charAt", "(I)C"⟩ : MethodName)) (a := a1) (w61 hw) (w62 hw) (notFace_of_selects (args := #[]) (mvT hZ (w64 hw))) (w64 hw) (w63 hw) (w8 hw) (w65 hw) (by decide) e0 E_11 (b15 l Z a0 hw a1 zc sf rsf x0 x1 x2 x3 h0 n0 O0 P_0 S_1 hr_2 S_3 S_4 S_5 S_6 hr_7) (argsL := [(.int (0 : Int32))]) (rest := []) rfl (lenOf pd_13 rfl) rfl (by rw [hml]; rfl) (W := 0) (Nat.le_of_eq rfl) (hb hby d8_16) (by decide) (by decide) (by decide) (by decide) rfl ?_
  rintro T1 h1 _ L1 X1 e1 ⟨rfl, M1, K1⟩
  have N1 := Fr.app N0 M1
  refine go_istore (q := 21) X1 hx (hb hby d8_19) (l' := #[.val (.ref a1), .val (.int (0 : Int32)), .val (.int (4 : Int32)), .val (.int (0 : Int32)), .val (.int x0)]) rfl rfl ?_
  refine go_iload (q := 23) X1 hx (hb hby d8_21) (v := x0) rfl rfl ?_
  refine go_bipush (q := 25) X1 hx (hb hby d8_23) (v := (48 : Int32)) (by decide) rfl ?_
  by_cases c2 : x0 < (48 : Int32)
  · refine go_icmpY (q := 35) X1 hx (hb hby d8_25) (XT.ii_lt_t c2) (by decide) (by decide) ?_
    refine go_iconst (q := 36) X1 hx (hb hby d8_35) (v := (0 : Int32)) (by decide) rfl ?_
    refine go_retI X1 hx hret hlk e1 (hb hby d8_36) (by simp) (by decide) (by decide) (by decide) ?_
    exact ⟨(0 : Int32), rfl, N1, ((Keep.refl h0 []).trans K1 all0), (by simp [c2])⟩
  · refine go_icmpN (q := 28) X1 hx (hb hby d8_25) (XT.ii_lt_f c2) rfl ?_
    refine go_iload (q := 30) X1 hx (hb hby d8_28) (v := x0) rfl rfl ?_
    refine go_bipush (q := 32) X1 hx (hb hby d8_30) (v := (57 : Int32)) (by decide) rfl ?_
    by_cases c3 : (57 : Int32) < x0
    · refine go_icmpN (q := 35) X1 hx (hb hby d8_32) (XT.ii_le_f c3) rfl ?_
      refine go_iconst (q := 36) X1 hx (hb hby d8_35) (v := (0 : Int32)) (by decide) rfl ?_
      refine go_retI X1 hx hret hlk e1 (hb hby d8_36) (by simp) (by decide) (by decide) (by decide) ?_
      exact ⟨(0 : Int32), rfl, N1, ((Keep.refl h0 []).trans K1 all0), (by simp [c2, c3])⟩
    · refine go_icmpY (q := 37) X1 hx (hb hby d8_32) (XT.ii_le_t c3) (by decide) (by decide) ?_
      refine go_iinc (q := 40) X1 hx (hb hby d8_37) (x := (0 : Int32)) (v := (1 : Int32)) rfl (by first | rfl | decide) (l' := #[.val (.ref a1), .val (.int (0 : Int32)), .val (.int (4 : Int32)), .val (.int (1 : Int32)), .val (.int x0)]) rfl rfl ?_
      refine go_goto (q := 9) X1 hx (hb hby d8_40) (by decide) (by decide) ?_
      refine go_iload_n (q := 10) X1 hx (hb hby d8_9) (v := (1 : Int32)) rfl rfl ?_
      refine go_iload_n (q := 11) X1 hx (hb hby d8_10) (v := (4 : Int32)) rfl rfl ?_
      refine go_icmpN (q := 14) X1 hx (hb hby d8_11) (XT.ii_ge_f (by decide)) rfl ?_
      refine go_aload_n (q := 15) X1 hx (hb hby d8_14) (v := (.ref a1)) rfl rfl rfl ?_
      refine go_iload_n (q := 16) X1 hx (hb hby d8_15) (v := (1 : Int32)) rfl rfl ?_
      have f4 : Exa Z h1 a1 "java/lang/String" := (E_11.keep K1)
      have f5 : Str4 Z h1 a1 x0 x1 x2 x3 := (Str4.keep P_0 K1)
      have O6 : Old Z n0 h1 := (O0.keep K1 all0)
      refine go_virtual (q := 19) X1 hx hZ hown (y := (⟨"java/lang/String", "charAt", "(I)C"⟩ : MethodName)) (z := (⟨"java/lang/String", "charAt", "(I)C"⟩ : MethodName)) (a := a1) (w61 hw) (w62 hw) (notFace_of_selects (args := #[]) (mvT hZ (w64 hw))) (w64 hw) (w63 hw) (w8 hw) (w65 hw) (by decide) e1 f4 (b15_1 l Z a0 hw a1 zc sf rsf x0 x1 x2 x3 h1 n0 O6 f5 S_1 hr_2 S_3 S_4 S_5 S_6 hr_8) (argsL := [(.int (1 : Int32))]) (rest := []) rfl (lenOf pd_13 rfl) rfl (by rw [hml]; rfl) (W := 0) (Nat.le_of_eq rfl) (hb hby d8_16) (by decide) (by decide) (by decide) (by decide) rfl ?_
      rintro T7 h7 _ L7 X7 e7 ⟨rfl, M7, K7⟩
      have N7 := Fr.app N1 M7
      refine go_istore (q := 21) X7 hx (hb hby d8_19) (l' := #[.val (.ref a1), .val (.int (0 : Int32)), .val (.int (4 : Int32)), .val (.int (1 : Int32)), .val (.int x1)]) rfl rfl ?_
      refine go_iload (q := 23) X7 hx (hb hby d8_21) (v := x1) rfl rfl ?_
      refine go_bipush (q := 25) X7 hx (hb hby d8_23) (v := (48 : Int32)) (by decide) rfl ?_
      by_cases c8 : x1 < (48 : Int32)
      · refine go_icmpY (q := 35) X7 hx (hb hby d8_25) (XT.ii_lt_t c8) (by decide) (by decide) ?_
        refine go_iconst (q := 36) X7 hx (hb hby d8_35) (v := (0 : Int32)) (by decide) rfl ?_
        refine go_retI X7 hx hret hlk e7 (hb hby d8_36) (by simp) (by decide) (by decide) (by decide) ?_
        exact ⟨(0 : Int32), rfl, N7, (((Keep.refl h0 []).trans K1 all0).trans K7 all0), (by simp [c2, c3, c8])⟩
      · refine go_icmpN (q := 28) X7 hx (hb hby d8_25) (XT.ii_lt_f c8) rfl ?_
        refine go_iload (q := 30) X7 hx (hb hby d8_28) (v := x1) rfl rfl ?_
        refine go_bipush (q := 32) X7 hx (hb hby d8_30) (v := (57 : Int32)) (by decide) rfl ?_
        by_cases c9 : (57 : Int32) < x1
        · refine go_icmpN (q := 35) X7 hx (hb hby d8_32) (XT.ii_le_f c9) rfl ?_
          refine go_iconst (q := 36) X7 hx (hb hby d8_35) (v := (0 : Int32)) (by decide) rfl ?_
          refine go_retI X7 hx hret hlk e7 (hb hby d8_36) (by simp) (by decide) (by decide) (by decide) ?_
          exact ⟨(0 : Int32), rfl, N7, (((Keep.refl h0 []).trans K1 all0).trans K7 all0), (by simp [c2, c3, c8, c9])⟩
        · refine go_icmpY (q := 37) X7 hx (hb hby d8_32) (XT.ii_le_t c9) (by decide) (by decide) ?_
          refine go_iinc (q := 40) X7 hx (hb hby d8_37) (x := (1 : Int32)) (v := (2 : Int32)) rfl (by first | rfl | decide) (l' := #[.val (.ref a1), .val (.int (0 : Int32)), .val (.int (4 : Int32)), .val (.int (2 : Int32)), .val (.int x1)]) rfl rfl ?_
          refine go_goto (q := 9) X7 hx (hb hby d8_40) (by decide) (by decide) ?_
          refine go_iload_n (q := 10) X7 hx (hb hby d8_9) (v := (2 : Int32)) rfl rfl ?_
          refine go_iload_n (q := 11) X7 hx (hb hby d8_10) (v := (4 : Int32)) rfl rfl ?_
          refine go_icmpN (q := 14) X7 hx (hb hby d8_11) (XT.ii_ge_f (by decide)) rfl ?_
          refine go_aload_n (q := 15) X7 hx (hb hby d8_14) (v := (.ref a1)) rfl rfl rfl ?_
          refine go_iload_n (q := 16) X7 hx (hb hby d8_15) (v := (2 : Int32)) rfl rfl ?_
          have f10 : Exa Z h7 a1 "java/lang/String" := (f4.keep K7)
          have f11 : Str4 Z h7 a1 x0 x1 x2 x3 := (Str4.keep f5 K7)
          have O12 : Old Z n0 h7 := (O6.keep K7 all0)
          refine go_virtual (q := 19) X7 hx hZ hown (y := (⟨"java/lang/String", "charAt", "(I)C"⟩ : MethodName)) (z := (⟨"java/lang/String", "charAt", "(I)C"⟩ : MethodName)) (a := a1) (w61 hw) (w62 hw) (notFace_of_selects (args := #[]) (mvT hZ (w64 hw))) (w64 hw) (w63 hw) (w8 hw) (w65 hw) (by decide) e7 f10 (b15_2 l Z a0 hw a1 zc sf rsf x0 x1 x2 x3 h7 n0 O12 f11 S_1 hr_2 S_3 S_4 S_5 S_6 hr_9) (argsL := [(.int (2 : Int32))]) (rest := []) rfl (lenOf pd_13 rfl) rfl (by rw [hml]; rfl) (W := 0) (Nat.le_of_eq rfl) (hb hby d8_16) (by decide) (by decide) (by decide) (by decide) rfl ?_
          rintro T13 h13 _ L13 X13 e13 ⟨rfl, M13, K13⟩
          have N13 := Fr.app N7 M13
          refine go_istore (q := 21) X13 hx (hb hby d8_19) (l' := #[.val (.ref a1), .val (.int (0 : Int32)), .val (.int (4 : Int32)), .val (.int (2 : Int32)), .val (.int x2)]) rfl rfl ?_
          refine go_iload (q := 23) X13 hx (hb hby d8_21) (v := x2) rfl rfl ?_
          refine go_bipush (q := 25) X13 hx (hb hby d8_23) (v := (48 : Int32)) (by decide) rfl ?_
          by_cases c14 : x2 < (48 : Int32)
          · refine go_icmpY (q := 35) X13 hx (hb hby d8_25) (XT.ii_lt_t c14) (by decide) (by decide) ?_
            refine go_iconst (q := 36) X13 hx (hb hby d8_35) (v := (0 : Int32)) (by decide) rfl ?_
            refine go_retI X13 hx hret hlk e13 (hb hby d8_36) (by simp) (by decide) (by decide) (by decide) ?_
            exact ⟨(0 : Int32), rfl, N13, ((((Keep.refl h0 []).trans K1 all0).trans K7 all0).trans K13 all0), (by simp [c2, c3, c8, c9, c14])⟩
          · refine go_icmpN (q := 28) X13 hx (hb hby d8_25) (XT.ii_lt_f c14) rfl ?_
            refine go_iload (q := 30) X13 hx (hb hby d8_28) (v := x2) rfl rfl ?_
            refine go_bipush (q := 32) X13 hx (hb hby d8_30) (v := (57 : Int32)) (by decide) rfl ?_
            by_cases c15 : (57 : Int32) < x2
            · refine go_icmpN (q := 35) X13 hx (hb hby d8_32) (XT.ii_le_f c15) rfl ?_
              refine go_iconst (q := 36) X13 hx (hb hby d8_35) (v := (0 : Int32)) (by decide) rfl ?_
              refine go_retI X13 hx hret hlk e13 (hb hby d8_36) (by simp) (by decide) (by decide) (by decide) ?_
              exact ⟨(0 : Int32), rfl, N13, ((((Keep.refl h0 []).trans K1 all0).trans K7 all0).trans K13 all0), (by simp [c2, c3, c8, c9, c14, c15])⟩
            · refine go_icmpY (q := 37) X13 hx (hb hby d8_32) (XT.ii_le_t c15) (by decide) (by decide) ?_
              refine go_iinc (q := 40) X13 hx (hb hby d8_37) (x := (2 : Int32)) (v := (3 : Int32)) rfl (by first | rfl | decide) (l' := #[.val (.ref a1), .val (.int (0 : Int32)), .val (.int (4 : Int32)), .val (.int (3 : Int32)), .val (.int x2)]) rfl rfl ?_
              refine go_goto (q := 9) X13 hx (hb hby d8_40) (by decide) (by decide) ?_
              refine go_iload_n (q := 10) X13 hx (hb hby d8_9) (v := (3 : Int32)) rfl rfl ?_
              refine go_iload_n (q := 11) X13 hx (hb hby d8_10) (v := (4 : Int32)) rfl rfl ?_
              refine go_icmpN (q := 14) X13 hx (hb hby d8_11) (XT.ii_ge_f (by decide)) rfl ?_
              refine go_aload_n (q := 15) X13 hx (hb hby d8_14) (v := (.ref a1)) rfl rfl rfl ?_
              refine go_iload_n (q := 16) X13 hx (hb hby d8_15) (v := (3 : Int32)) rfl rfl ?_
              have f16 : Exa Z h13 a1 "java/lang/String" := (f10.keep K13)
              have f17 : Str4 Z h13 a1 x0 x1 x2 x3 := (Str4.keep f11 K13)
              have O18 : Old Z n0 h13 := (O12.keep K13 all0)
              refine go_virtual (q := 19) X13 hx hZ hown (y := (⟨"java/lang/String", "charAt", "(I)C"⟩ : MethodName)) (z := (⟨"java/lang/String", "charAt", "(I)C"⟩ : MethodName)) (a := a1) (w61 hw) (w62 hw) (notFace_of_selects (args := #[]) (mvT hZ (w64 hw))) (w64 hw) (w63 hw) (w8 hw) (w65 hw) (by decide) e13 f16 (b15_3 l Z a0 hw a1 zc sf rsf x0 x1 x2 x3 h13 n0 O18 f17 S_1 hr_2 S_3 S_4 S_5 S_6 hr_10) (argsL := [(.int (3 : Int32))]) (rest := []) rfl (lenOf pd_13 rfl) rfl (by rw [hml]; rfl) (W := 0) (Nat.le_of_eq rfl) (hb hby d8_16) (by decide) (by decide) (by decide) (by decide) rfl ?_
              rintro T19 h19 _ L19 X19 e19 ⟨rfl, M19, K19⟩
              have N19 := Fr.app N13 M19
              refine go_istore (q := 21) X19 hx (hb hby d8_19) (l' := #[.val (.ref a1), .val (.int (0 : Int32)), .val (.int (4 : Int32)), .val (.int (3 : Int32)), .val (.int x3)]) rfl rfl ?_
              refine go_iload (q := 23) X19 hx (hb hby d8_21) (v := x3) rfl rfl ?_
              refine go_bipush (q := 25) X19 hx (hb hby d8_23) (v := (48 : Int32)) (by decide) rfl ?_
              by_cases c20 : x3 < (48 : Int32)
              · refine go_icmpY (q := 35) X19 hx (hb hby d8_25) (XT.ii_lt_t c20) (by decide) (by decide) ?_
                refine go_iconst (q := 36) X19 hx (hb hby d8_35) (v := (0 : Int32)) (by decide) rfl ?_
                refine go_retI X19 hx hret hlk e19 (hb hby d8_36) (by simp) (by decide) (by decide) (by decide) ?_
                exact ⟨(0 : Int32), rfl, N19, (((((Keep.refl h0 []).trans K1 all0).trans K7 all0).trans K13 all0).trans K19 all0), (by simp [c2, c3, c8, c9, c14, c15, c20])⟩
              · refine go_icmpN (q := 28) X19 hx (hb hby d8_25) (XT.ii_lt_f c20) rfl ?_
                refine go_iload (q := 30) X19 hx (hb hby d8_28) (v := x3) rfl rfl ?_
                refine go_bipush (q := 32) X19 hx (hb hby d8_30) (v := (57 : Int32)) (by decide) rfl ?_
                by_cases c21 : (57 : Int32) < x3
                · refine go_icmpN (q := 35) X19 hx (hb hby d8_32) (XT.ii_le_f c21) rfl ?_
                  refine go_iconst (q := 36) X19 hx (hb hby d8_35) (v := (0 : Int32)) (by decide) rfl ?_
                  refine go_retI X19 hx hret hlk e19 (hb hby d8_36) (by simp) (by decide) (by decide) (by decide) ?_
                  exact ⟨(0 : Int32), rfl, N19, (((((Keep.refl h0 []).trans K1 all0).trans K7 all0).trans K13 all0).trans K19 all0), (by simp [c2, c3, c8, c9, c14, c15, c20, c21])⟩
                · refine go_icmpY (q := 37) X19 hx (hb hby d8_32) (XT.ii_le_t c21) (by decide) (by decide) ?_
                  refine go_iinc (q := 40) X19 hx (hb hby d8_37) (x := (3 : Int32)) (v := (4 : Int32)) rfl (by first | rfl | decide) (l' := #[.val (.ref a1), .val (.int (0 : Int32)), .val (.int (4 : Int32)), .val (.int (4 : Int32)), .val (.int x3)]) rfl rfl ?_
                  refine go_goto (q := 9) X19 hx (hb hby d8_40) (by decide) (by decide) ?_
                  refine go_iload_n (q := 10) X19 hx (hb hby d8_9) (v := (4 : Int32)) rfl rfl ?_
                  refine go_iload_n (q := 11) X19 hx (hb hby d8_10) (v := (4 : Int32)) rfl rfl ?_
                  refine go_icmpY (q := 43) X19 hx (hb hby d8_11) (XT.ii_ge_t (by decide)) (by decide) (by decide) ?_
                  refine go_iconst (q := 44) X19 hx (hb hby d8_43) (v := (1 : Int32)) (by decide) rfl ?_
                  refine go_retI X19 hx hret hlk e19 (hb hby d8_44) (by simp) (by decide) (by decide) (by decide) ?_
                  exact ⟨(1 : Int32), rfl, N19, (((((Keep.refl h0 []).trans K1 all0).trans K7 all0).trans K13 all0).trans K19 all0), (by simp [c2, c3, c8, c9, c14, c15, c20, c21])⟩
set_option maxRecDepth 65536 in
set_option maxHeartbeats 40000000 in
theorem b8_5 (l : Launch) (Z : State) (a0 : Array Value) (hw : ∀ d ∈ tables_1, d.before a0 Z = true) (a1 : Addr) (zc : Int32) (sf : Value) (rsf : sf.isRef = true) (x0 : Int32) (x1 : Int32) (x2 : Int32) (x3 : Int32) (h0 : Heap) (n0 : Nat) (O0 : Old Z n0 h0) (P_0 : Str4 Z h0 a1 x0 x1 x2 x3) (S_1 : Sta Z Z.heap "java/lang/String" "COMPACT_STRINGS" "Z" (.int zc)) (hr_2 : (¬ zc = 0)) (S_3 : Sta Z Z.heap "jdk/internal/util/Preconditions" "SIOOBE_FORMATTER" "Ljava/util/function/BiFunction;" sf) (S_4 : Sta Z Z.heap "java/lang/StringUTF16" "$assertionsDisabled" "Z" (.int (1 : Int32))) (S_5 : Sta Z Z.heap "java/lang/StringUTF16" "HI_BYTE_SHIFT" "I" (.int (0 : Int32))) (S_6 : Sta Z Z.heap "java/lang/StringUTF16" "LO_BYTE_SHIFT" "I" (.int (8 : Int32))) (hr_7 : (0 ≤ x0.toInt ∧ x0.toInt ≤ 65535)) (hr_8 : (0 ≤ x1.toInt ∧ x1.toInt ≤ 65535)) (hr_9 : (0 ≤ x2.toInt ∧ x2.toInt ≤ 65535)) (hr_10 : (0 ≤ x3.toInt ∧ x3.toInt ≤ 65535)) (E_11 : Exa Z h0 a1 "java/lang/String") :
    Con l Z (⟨"com/example/harborspread/harborspread/Decimals", "isDigits", "(Ljava/lang/String;II)Z"⟩ : MethodName) prog_21_method_11_code 5 (some .boolean) ({ frames := 5, cells := 0, slots := 0, locals := 66 } : Room) #[(.ref a1), (.int (1 : Int32)), (.int (2 : Int32))] h0 (fun v h L => ∃ (r : Int32), v = some (.int r) ∧ Fr n0 L ∧ Keep h0 h [] ∧ ((r = 1 ∧ ((¬ x1 < (48 : Int32) ∧ ¬ (57 : Int32) < x1))) ∨ (r = 0 ∧ ¬ ((¬ x1 < (48 : Int32) ∧ ¬ (57 : Int32) < x1))))) := by
  refine Con.of (plainFor_of_name pn_4) ?_
  intro p e s m below meth c s₁ hx hby hml hZ hown hnm hret hlk X0 e0
  have N0 := Fr.nil n0
  refine go_cast (g' := mkF m 0 #[.val (.ref a1), .val (.int (1 : Int32)), .val (.int (2 : Int32)), .unset, .unset] []) ?_ (by first | (simp [entryFrame, mkF, argsToLocals, Value.category]; done) | rfl)
  refine go_iload_n (q := 1) X0 hx (hb hby d8_0) (v := (1 : Int32)) rfl rfl ?_
  refine go_iload_n (q := 2) X0 hx (hb hby d8_1) (v := (2 : Int32)) rfl rfl ?_
  refine go_icmpY (q := 7) X0 hx (hb hby d8_2) (XT.ii_lt_t (by decide)) (by decide) (by decide) ?_
  refine go_iload_n (q := 8) X0 hx (hb hby d8_7) (v := (1 : Int32)) rfl rfl ?_
  refine go_istore_n (q := 9) X0 hx (hb hby d8_8) (l' := #[.val (.ref a1), .val (.int (1 : Int32)), .val (.int (2 : Int32)), .val (.int (1 : Int32)), .unset]) rfl rfl ?_
  refine go_iload_n (q := 10) X0 hx (hb hby d8_9) (v := (1 : Int32)) rfl rfl ?_
  refine go_iload_n (q := 11) X0 hx (hb hby d8_10) (v := (2 : Int32)) rfl rfl ?_
  refine go_icmpN (q := 14) X0 hx (hb hby d8_11) (XT.ii_ge_f (by decide)) rfl ?_
  refine go_aload_n (q := 15) X0 hx (hb hby d8_14) (v := (.ref a1)) rfl rfl rfl ?_
  refine go_iload_n (q := 16) X0 hx (hb hby d8_15) (v := (1 : Int32)) rfl rfl ?_
  refine go_virtual (q := 19) X0 hx hZ hown (y := (⟨"java/lang/String", "charAt", "(I)C"⟩ : MethodName)) (z := (⟨"java/lang/String", "charAt", "(I)C"⟩ : MethodName)) (a := a1) (w61 hw) (w62 hw) (notFace_of_selects (args := #[]) (mvT hZ (w64 hw))) (w64 hw) (w63 hw) (w8 hw) (w65 hw) (by decide) e0 E_11 (b15_1 l Z a0 hw a1 zc sf rsf x0 x1 x2 x3 h0 n0 O0 P_0 S_1 hr_2 S_3 S_4 S_5 S_6 hr_8) (argsL := [(.int (1 : Int32))]) (rest := []) rfl (lenOf pd_13 rfl) rfl (by rw [hml]; rfl) (W := 0) (Nat.le_of_eq rfl) (hb hby d8_16) (by decide) (by decide) (by decide) (by decide) rfl ?_
  rintro T1 h1 _ L1 X1 e1 ⟨rfl, M1, K1⟩
  have N1 := Fr.app N0 M1
  refine go_istore (q := 21) X1 hx (hb hby d8_19) (l' := #[.val (.ref a1), .val (.int (1 : Int32)), .val (.int (2 : Int32)), .val (.int (1 : Int32)), .val (.int x1)]) rfl rfl ?_
  refine go_iload (q := 23) X1 hx (hb hby d8_21) (v := x1) rfl rfl ?_
  refine go_bipush (q := 25) X1 hx (hb hby d8_23) (v := (48 : Int32)) (by decide) rfl ?_
  by_cases c2 : x1 < (48 : Int32)
  · refine go_icmpY (q := 35) X1 hx (hb hby d8_25) (XT.ii_lt_t c2) (by decide) (by decide) ?_
    refine go_iconst (q := 36) X1 hx (hb hby d8_35) (v := (0 : Int32)) (by decide) rfl ?_
    refine go_retI X1 hx hret hlk e1 (hb hby d8_36) (by simp) (by decide) (by decide) (by decide) ?_
    exact ⟨(0 : Int32), rfl, N1, ((Keep.refl h0 []).trans K1 all0), (by simp [c2])⟩
  · refine go_icmpN (q := 28) X1 hx (hb hby d8_25) (XT.ii_lt_f c2) rfl ?_
    refine go_iload (q := 30) X1 hx (hb hby d8_28) (v := x1) rfl rfl ?_
    refine go_bipush (q := 32) X1 hx (hb hby d8_30) (v := (57 : Int32)) (by decide) rfl ?_
    by_cases c3 : (57 : Int32) < x1
    · refine go_icmpN (q := 35) X1 hx (hb hby d8_32) (XT.ii_le_f c3) rfl ?_
      refine go_iconst (q := 36) X1 hx (hb hby d8_35) (v := (0 : Int32)) (by decide) rfl ?_
      refine go_retI X1 hx hret hlk e1 (hb hby d8_36) (by simp) (by decide) (by decide) (by decide) ?_
      exact ⟨(0 : Int32), rfl, N1, ((Keep.refl h0 []).trans K1 all0), (by simp [c2, c3])⟩
    · refine go_icmpY (q := 37) X1 hx (hb hby d8_32) (XT.ii_le_t c3) (by decide) (by decide) ?_
      refine go_iinc (q := 40) X1 hx (hb hby d8_37) (x := (1 : Int32)) (v := (2 : Int32)) rfl (by first | rfl | decide) (l' := #[.val (.ref a1), .val (.int (1 : Int32)), .val (.int (2 : Int32)), .val (.int (2 : Int32)), .val (.int x1)]) rfl rfl ?_
      refine go_goto (q := 9) X1 hx (hb hby d8_40) (by decide) (by decide) ?_
      refine go_iload_n (q := 10) X1 hx (hb hby d8_9) (v := (2 : Int32)) rfl rfl ?_
      refine go_iload_n (q := 11) X1 hx (hb hby d8_10) (v := (2 : Int32)) rfl rfl ?_
      refine go_icmpY (q := 43) X1 hx (hb hby d8_11) (XT.ii_ge_t (by decide)) (by decide) (by decide) ?_
      refine go_iconst (q := 44) X1 hx (hb hby d8_43) (v := (1 : Int32)) (by decide) rfl ?_
      refine go_retI X1 hx hret hlk e1 (hb hby d8_44) (by simp) (by decide) (by decide) (by decide) ?_
      exact ⟨(1 : Int32), rfl, N1, ((Keep.refl h0 []).trans K1 all0), (by simp [c2, c3])⟩
set_option maxRecDepth 65536 in
set_option maxHeartbeats 40000000 in
theorem b8_6 (l : Launch) (Z : State) (a0 : Array Value) (hw : ∀ d ∈ tables_1, d.before a0 Z = true) (a1 : Addr) (zc : Int32) (sf : Value) (rsf : sf.isRef = true) (x0 : Int32) (x1 : Int32) (x2 : Int32) (x3 : Int32) (h0 : Heap) (n0 : Nat) (O0 : Old Z n0 h0) (P_0 : Str4 Z h0 a1 x0 x1 x2 x3) (S_1 : Sta Z Z.heap "java/lang/String" "COMPACT_STRINGS" "Z" (.int zc)) (hr_2 : (¬ zc = 0)) (S_3 : Sta Z Z.heap "jdk/internal/util/Preconditions" "SIOOBE_FORMATTER" "Ljava/util/function/BiFunction;" sf) (S_4 : Sta Z Z.heap "java/lang/StringUTF16" "$assertionsDisabled" "Z" (.int (1 : Int32))) (S_5 : Sta Z Z.heap "java/lang/StringUTF16" "HI_BYTE_SHIFT" "I" (.int (0 : Int32))) (S_6 : Sta Z Z.heap "java/lang/StringUTF16" "LO_BYTE_SHIFT" "I" (.int (8 : Int32))) (hr_7 : (0 ≤ x0.toInt ∧ x0.toInt ≤ 65535)) (hr_8 : (0 ≤ x1.toInt ∧ x1.toInt ≤ 65535)) (hr_9 : (0 ≤ x2.toInt ∧ x2.toInt ≤ 65535)) (hr_10 : (0 ≤ x3.toInt ∧ x3.toInt ≤ 65535)) (E_11 : Exa Z h0 a1 "java/lang/String") :
    Con l Z (⟨"com/example/harborspread/harborspread/Decimals", "isDigits", "(Ljava/lang/String;II)Z"⟩ : MethodName) prog_21_method_11_code 5 (some .boolean) ({ frames := 5, cells := 0, slots := 0, locals := 66 } : Room) #[(.ref a1), (.int (1 : Int32)), (.int (3 : Int32))] h0 (fun v h L => ∃ (r : Int32), v = some (.int r) ∧ Fr n0 L ∧ Keep h0 h [] ∧ ((r = 1 ∧ ((¬ x1 < (48 : Int32) ∧ ¬ (57 : Int32) < x1) ∧ (¬ x2 < (48 : Int32) ∧ ¬ (57 : Int32) < x2))) ∨ (r = 0 ∧ ¬ ((¬ x1 < (48 : Int32) ∧ ¬ (57 : Int32) < x1) ∧ (¬ x2 < (48 : Int32) ∧ ¬ (57 : Int32) < x2))))) := by
  refine Con.of (plainFor_of_name pn_4) ?_
  intro p e s m below meth c s₁ hx hby hml hZ hown hnm hret hlk X0 e0
  have N0 := Fr.nil n0
  refine go_cast (g' := mkF m 0 #[.val (.ref a1), .val (.int (1 : Int32)), .val (.int (3 : Int32)), .unset, .unset] []) ?_ (by first | (simp [entryFrame, mkF, argsToLocals, Value.category]; done) | rfl)
  refine go_iload_n (q := 1) X0 hx (hb hby d8_0) (v := (1 : Int32)) rfl rfl ?_
  refine go_iload_n (q := 2) X0 hx (hb hby d8_1) (v := (3 : Int32)) rfl rfl ?_
  refine go_icmpY (q := 7) X0 hx (hb hby d8_2) (XT.ii_lt_t (by decide)) (by decide) (by decide) ?_
  refine go_iload_n (q := 8) X0 hx (hb hby d8_7) (v := (1 : Int32)) rfl rfl ?_
  refine go_istore_n (q := 9) X0 hx (hb hby d8_8) (l' := #[.val (.ref a1), .val (.int (1 : Int32)), .val (.int (3 : Int32)), .val (.int (1 : Int32)), .unset]) rfl rfl ?_
  refine go_iload_n (q := 10) X0 hx (hb hby d8_9) (v := (1 : Int32)) rfl rfl ?_
  refine go_iload_n (q := 11) X0 hx (hb hby d8_10) (v := (3 : Int32)) rfl rfl ?_
  refine go_icmpN (q := 14) X0 hx (hb hby d8_11) (XT.ii_ge_f (by decide)) rfl ?_
  refine go_aload_n (q := 15) X0 hx (hb hby d8_14) (v := (.ref a1)) rfl rfl rfl ?_
  refine go_iload_n (q := 16) X0 hx (hb hby d8_15) (v := (1 : Int32)) rfl rfl ?_
  refine go_virtual (q := 19) X0 hx hZ hown (y := (⟨"java/lang/String", "charAt", "(I)C"⟩ : MethodName)) (z := (⟨"java/lang/String", "charAt", "(I)C"⟩ : MethodName)) (a := a1) (w61 hw) (w62 hw) (notFace_of_selects (args := #[]) (mvT hZ (w64 hw))) (w64 hw) (w63 hw) (w8 hw) (w65 hw) (by decide) e0 E_11 (b15_1 l Z a0 hw a1 zc sf rsf x0 x1 x2 x3 h0 n0 O0 P_0 S_1 hr_2 S_3 S_4 S_5 S_6 hr_8) (argsL := [(.int (1 : Int32))]) (rest := []) rfl (lenOf pd_13 rfl) rfl (by rw [hml]; rfl) (W := 0) (Nat.le_of_eq rfl) (hb hby d8_16) (by decide) (by decide) (by decide) (by decide) rfl ?_
  rintro T1 h1 _ L1 X1 e1 ⟨rfl, M1, K1⟩
  have N1 := Fr.app N0 M1
  refine go_istore (q := 21) X1 hx (hb hby d8_19) (l' := #[.val (.ref a1), .val (.int (1 : Int32)), .val (.int (3 : Int32)), .val (.int (1 : Int32)), .val (.int x1)]) rfl rfl ?_
  refine go_iload (q := 23) X1 hx (hb hby d8_21) (v := x1) rfl rfl ?_
  refine go_bipush (q := 25) X1 hx (hb hby d8_23) (v := (48 : Int32)) (by decide) rfl ?_
  by_cases c2 : x1 < (48 : Int32)
  · refine go_icmpY (q := 35) X1 hx (hb hby d8_25) (XT.ii_lt_t c2) (by decide) (by decide) ?_
    refine go_iconst (q := 36) X1 hx (hb hby d8_35) (v := (0 : Int32)) (by decide) rfl ?_
    refine go_retI X1 hx hret hlk e1 (hb hby d8_36) (by simp) (by decide) (by decide) (by decide) ?_
    exact ⟨(0 : Int32), rfl, N1, ((Keep.refl h0 []).trans K1 all0), (by simp [c2])⟩
  · refine go_icmpN (q := 28) X1 hx (hb hby d8_25) (XT.ii_lt_f c2) rfl ?_
    refine go_iload (q := 30) X1 hx (hb hby d8_28) (v := x1) rfl rfl ?_
    refine go_bipush (q := 32) X1 hx (hb hby d8_30) (v := (57 : Int32)) (by decide) rfl ?_
    by_cases c3 : (57 : Int32) < x1
    · refine go_icmpN (q := 35) X1 hx (hb hby d8_32) (XT.ii_le_f c3) rfl ?_
      refine go_iconst (q := 36) X1 hx (hb hby d8_35) (v := (0 : Int32)) (by decide) rfl ?_
      refine go_retI X1 hx hret hlk e1 (hb hby d8_36) (by simp) (by decide) (by decide) (by decide) ?_
      exact ⟨(0 : Int32), rfl, N1, ((Keep.refl h0 []).trans K1 all0), (by simp [c2, c3])⟩
    · refine go_icmpY (q := 37) X1 hx (hb hby d8_32) (XT.ii_le_t c3) (by decide) (by decide) ?_
      refine go_iinc (q := 40) X1 hx (hb hby d8_37) (x := (1 : Int32)) (v := (2 : Int32)) rfl (by first | rfl | decide) (l' := #[.val (.ref a1), .val (.int (1 : Int32)), .val (.int (3 : Int32)), .val (.int (2 : Int32)), .val (.int x1)]) rfl rfl ?_
      refine go_goto (q := 9) X1 hx (hb hby d8_40) (by decide) (by decide) ?_
      refine go_iload_n (q := 10) X1 hx (hb hby d8_9) (v := (2 : Int32)) rfl rfl ?_
      refine go_iload_n (q := 11) X1 hx (hb hby d8_10) (v := (3 : Int32)) rfl rfl ?_
      refine go_icmpN (q := 14) X1 hx (hb hby d8_11) (XT.ii_ge_f (by decide)) rfl ?_
      refine go_aload_n (q := 15) X1 hx (hb hby d8_14) (v := (.ref a1)) rfl rfl rfl ?_
      refine go_iload_n (q := 16) X1 hx (hb hby d8_15) (v := (2 : Int32)) rfl rfl ?_
      have f4 : Exa Z h1 a1 "java/lang/String" := (E_11.keep K1)
      have f5 : Str4 Z h1 a1 x0 x1 x2 x3 := (Str4.keep P_0 K1)
      have O6 : Old Z n0 h1 := (O0.keep K1 all0)
      refine go_virtual (q := 19) X1 hx hZ hown (y := (⟨"java/lang/String", "charAt", "(I)C"⟩ : MethodName)) (z := (⟨"java/lang/String", "charAt", "(I)C"⟩ : MethodName)) (a := a1) (w61 hw) (w62 hw) (notFace_of_selects (args := #[]) (mvT hZ (w64 hw))) (w64 hw) (w63 hw) (w8 hw) (w65 hw) (by decide) e1 f4 (b15_2 l Z a0 hw a1 zc sf rsf x0 x1 x2 x3 h1 n0 O6 f5 S_1 hr_2 S_3 S_4 S_5 S_6 hr_9) (argsL := [(.int (2 : Int32))]) (rest := []) rfl (lenOf pd_13 rfl) rfl (by rw [hml]; rfl) (W := 0) (Nat.le_of_eq rfl) (hb hby d8_16) (by decide) (by decide) (by decide) (by decide) rfl ?_
      rintro T7 h7 _ L7 X7 e7 ⟨rfl, M7, K7⟩
      have N7 := Fr.app N1 M7
      refine go_istore (q := 21) X7 hx (hb hby d8_19) (l' := #[.val (.ref a1), .val (.int (1 : Int32)), .val (.int (3 : Int32)), .val (.int (2 : Int32)), .val (.int x2)]) rfl rfl ?_
      refine go_iload (q := 23) X7 hx (hb hby d8_21) (v := x2) rfl rfl ?_
      refine go_bipush (q := 25) X7 hx (hb hby d8_23) (v := (48 : Int32)) (by decide) rfl ?_
      by_cases c8 : x2 < (48 : Int32)
      · refine go_icmpY (q := 35) X7 hx (hb hby d8_25) (XT.ii_lt_t c8) (by decide) (by decide) ?_
        refine go_iconst (q := 36) X7 hx (hb hby d8_35) (v := (0 : Int32)) (by decide) rfl ?_
        refine go_retI X7 hx hret hlk e7 (hb hby d8_36) (by simp) (by decide) (by decide) (by decide) ?_
        exact ⟨(0 : Int32), rfl, N7, (((Keep.refl h0 []).trans K1 all0).trans K7 all0), (by simp [c2, c3, c8])⟩
      · refine go_icmpN (q := 28) X7 hx (hb hby d8_25) (XT.ii_lt_f c8) rfl ?_
        refine go_iload (q := 30) X7 hx (hb hby d8_28) (v := x2) rfl rfl ?_
        refine go_bipush (q := 32) X7 hx (hb hby d8_30) (v := (57 : Int32)) (by decide) rfl ?_
        by_cases c9 : (57 : Int32) < x2
        · refine go_icmpN (q := 35) X7 hx (hb hby d8_32) (XT.ii_le_f c9) rfl ?_
          refine go_iconst (q := 36) X7 hx (hb hby d8_35) (v := (0 : Int32)) (by decide) rfl ?_
          refine go_retI X7 hx hret hlk e7 (hb hby d8_36) (by simp) (by decide) (by decide) (by decide) ?_
          exact ⟨(0 : Int32), rfl, N7, (((Keep.refl h0 []).trans K1 all0).trans K7 all0), (by simp [c2, c3, c8, c9])⟩
        · refine go_icmpY (q := 37) X7 hx (hb hby d8_32) (XT.ii_le_t c9) (by decide) (by decide) ?_
          refine go_iinc (q := 40) X7 hx (hb hby d8_37) (x := (2 : Int32)) (v := (3 : Int32)) rfl (by first | rfl | decide) (l' := #[.val (.ref a1), .val (.int (1 : Int32)), .val (.int (3 : Int32)), .val (.int (3 : Int32)), .val (.int x2)]) rfl rfl ?_
          refine go_goto (q := 9) X7 hx (hb hby d8_40) (by decide) (by decide) ?_
          refine go_iload_n (q := 10) X7 hx (hb hby d8_9) (v := (3 : Int32)) rfl rfl ?_
          refine go_iload_n (q := 11) X7 hx (hb hby d8_10) (v := (3 : Int32)) rfl rfl ?_
          refine go_icmpY (q := 43) X7 hx (hb hby d8_11) (XT.ii_ge_t (by decide)) (by decide) (by decide) ?_
          refine go_iconst (q := 44) X7 hx (hb hby d8_43) (v := (1 : Int32)) (by decide) rfl ?_
          refine go_retI X7 hx hret hlk e7 (hb hby d8_44) (by simp) (by decide) (by decide) (by decide) ?_
          exact ⟨(1 : Int32), rfl, N7, (((Keep.refl h0 []).trans K1 all0).trans K7 all0), (by simp [c2, c3, c8, c9])⟩
set_option maxRecDepth 65536 in
set_option maxHeartbeats 40000000 in
theorem b8_7 (l : Launch) (Z : State) (a0 : Array Value) (hw : ∀ d ∈ tables_1, d.before a0 Z = true) (a1 : Addr) (zc : Int32) (sf : Value) (rsf : sf.isRef = true) (x0 : Int32) (x1 : Int32) (x2 : Int32) (x3 : Int32) (h0 : Heap) (n0 : Nat) (O0 : Old Z n0 h0) (P_0 : Str4 Z h0 a1 x0 x1 x2 x3) (S_1 : Sta Z Z.heap "java/lang/String" "COMPACT_STRINGS" "Z" (.int zc)) (hr_2 : (¬ zc = 0)) (S_3 : Sta Z Z.heap "jdk/internal/util/Preconditions" "SIOOBE_FORMATTER" "Ljava/util/function/BiFunction;" sf) (S_4 : Sta Z Z.heap "java/lang/StringUTF16" "$assertionsDisabled" "Z" (.int (1 : Int32))) (S_5 : Sta Z Z.heap "java/lang/StringUTF16" "HI_BYTE_SHIFT" "I" (.int (0 : Int32))) (S_6 : Sta Z Z.heap "java/lang/StringUTF16" "LO_BYTE_SHIFT" "I" (.int (8 : Int32))) (hr_7 : (0 ≤ x0.toInt ∧ x0.toInt ≤ 65535)) (hr_8 : (0 ≤ x1.toInt ∧ x1.toInt ≤ 65535)) (hr_9 : (0 ≤ x2.toInt ∧ x2.toInt ≤ 65535)) (hr_10 : (0 ≤ x3.toInt ∧ x3.toInt ≤ 65535)) (E_11 : Exa Z h0 a1 "java/lang/String") :
    Con l Z (⟨"com/example/harborspread/harborspread/Decimals", "isDigits", "(Ljava/lang/String;II)Z"⟩ : MethodName) prog_21_method_11_code 5 (some .boolean) ({ frames := 5, cells := 0, slots := 0, locals := 66 } : Room) #[(.ref a1), (.int (1 : Int32)), (.int (4 : Int32))] h0 (fun v h L => ∃ (r : Int32), v = some (.int r) ∧ Fr n0 L ∧ Keep h0 h [] ∧ ((r = 1 ∧ ((¬ x1 < (48 : Int32) ∧ ¬ (57 : Int32) < x1) ∧ (¬ x2 < (48 : Int32) ∧ ¬ (57 : Int32) < x2) ∧ (¬ x3 < (48 : Int32) ∧ ¬ (57 : Int32) < x3))) ∨ (r = 0 ∧ ¬ ((¬ x1 < (48 : Int32) ∧ ¬ (57 : Int32) < x1) ∧ (¬ x2 < (48 : Int32) ∧ ¬ (57 : Int32) < x2) ∧ (¬ x3 < (48 : Int32) ∧ ¬ (57 : Int32) < x3))))) := by
  refine Con.of (plainFor_of_name pn_4) ?_
  intro p e s m below meth c s₁ hx hby hml hZ hown hnm hret hlk X0 e0
  have N0 := Fr.nil n0
  refine go_cast (g' := mkF m 0 #[.val (.ref a1), .val (.int (1 : Int32)), .val (.int (4 : Int32)), .unset, .unset] []) ?_ (by first | (simp [entryFrame, mkF, argsToLocals, Value.category]; done) | rfl)
  refine go_iload_n (q := 1) X0 hx (hb hby d8_0) (v := (1 : Int32)) rfl rfl ?_
  refine go_iload_n (q := 2) X0 hx (hb hby d8_1) (v := (4 : Int32)) rfl rfl ?_
  refine go_icmpY (q := 7) X0 hx (hb hby d8_2) (XT.ii_lt_t (by decide)) (by decide) (by decide) ?_
  refine go_iload_n (q := 8) X0 hx (hb hby d8_7) (v := (1 : Int32)) rfl rfl ?_
  refine go_istore_n (q := 9) X0 hx (hb hby d8_8) (l' := #[.val (.ref a1), .val (.int (1 : Int32)), .val (.int (4 : Int32)), .val (.int (1 : Int32)), .unset]) rfl rfl ?_
  refine go_iload_n (q := 10) X0 hx (hb hby d8_9) (v := (1 : Int32)) rfl rfl ?_
  refine go_iload_n (q := 11) X0 hx (hb hby d8_10) (v := (4 : Int32)) rfl rfl ?_
  refine go_icmpN (q := 14) X0 hx (hb hby d8_11) (XT.ii_ge_f (by decide)) rfl ?_
  refine go_aload_n (q := 15) X0 hx (hb hby d8_14) (v := (.ref a1)) rfl rfl rfl ?_
  refine go_iload_n (q := 16) X0 hx (hb hby d8_15) (v := (1 : Int32)) rfl rfl ?_
  refine go_virtual (q := 19) X0 hx hZ hown (y := (⟨"java/lang/String", "charAt", "(I)C"⟩ : MethodName)) (z := (⟨"java/lang/String", "charAt", "(I)C"⟩ : MethodName)) (a := a1) (w61 hw) (w62 hw) (notFace_of_selects (args := #[]) (mvT hZ (w64 hw))) (w64 hw) (w63 hw) (w8 hw) (w65 hw) (by decide) e0 E_11 (b15_1 l Z a0 hw a1 zc sf rsf x0 x1 x2 x3 h0 n0 O0 P_0 S_1 hr_2 S_3 S_4 S_5 S_6 hr_8) (argsL := [(.int (1 : Int32))]) (rest := []) rfl (lenOf pd_13 rfl) rfl (by rw [hml]; rfl) (W := 0) (Nat.le_of_eq rfl) (hb hby d8_16) (by decide) (by decide) (by decide) (by decide) rfl ?_
  rintro T1 h1 _ L1 X1 e1 ⟨rfl, M1, K1⟩
  have N1 := Fr.app N0 M1
  refine go_istore (q := 21) X1 hx (hb hby d8_19) (l' := #[.val (.ref a1), .val (.int (1 : Int32)), .val (.int (4 : Int32)), .val (.int (1 : Int32)), .val (.int x1)]) rfl rfl ?_
  refine go_iload (q := 23) X1 hx (hb hby d8_21) (v := x1) rfl rfl ?_
  refine go_bipush (q := 25) X1 hx (hb hby d8_23) (v := (48 : Int32)) (by decide) rfl ?_
  by_cases c2 : x1 < (48 : Int32)
  · refine go_icmpY (q := 35) X1 hx (hb hby d8_25) (XT.ii_lt_t c2) (by decide) (by decide) ?_
    refine go_iconst (q := 36) X1 hx (hb hby d8_35) (v := (0 : Int32)) (by decide) rfl ?_
    refine go_retI X1 hx hret hlk e1 (hb hby d8_36) (by simp) (by decide) (by decide) (by decide) ?_
    exact ⟨(0 : Int32), rfl, N1, ((Keep.refl h0 []).trans K1 all0), (by simp [c2])⟩
  · refine go_icmpN (q := 28) X1 hx (hb hby d8_25) (XT.ii_lt_f c2) rfl ?_
    refine go_iload (q := 30) X1 hx (hb hby d8_28) (v := x1) rfl rfl ?_
    refine go_bipush (q := 32) X1 hx (hb hby d8_30) (v := (57 : Int32)) (by decide) rfl ?_
    by_cases c3 : (57 : Int32) < x1
    · refine go_icmpN (q := 35) X1 hx (hb hby d8_32) (XT.ii_le_f c3) rfl ?_
      refine go_iconst (q := 36) X1 hx (hb hby d8_35) (v := (0 : Int32)) (by decide) rfl ?_
      refine go_retI X1 hx hret hlk e1 (hb hby d8_36) (by simp) (by decide) (by decide) (by decide) ?_
      exact ⟨(0 : Int32), rfl, N1, ((Keep.refl h0 []).trans K1 all0), (by simp [c2, c3])⟩
    · refine go_icmpY (q := 37) X1 hx (hb hby d8_32) (XT.ii_le_t c3) (by decide) (by decide) ?_
      refine go_iinc (q := 40) X1 hx (hb hby d8_37) (x := (1 : Int32)) (v := (2 : Int32)) rfl (by first | rfl | decide) (l' := #[.val (.ref a1), .val (.int (1 : Int32)), .val (.int (4 : Int32)), .val (.int (2 : Int32)), .val (.int x1)]) rfl rfl ?_
      refine go_goto (q := 9) X1 hx (hb hby d8_40) (by decide) (by decide) ?_
      refine go_iload_n (q := 10) X1 hx (hb hby d8_9) (v := (2 : Int32)) rfl rfl ?_
      refine go_iload_n (q := 11) X1 hx (hb hby d8_10) (v := (4 : Int32)) rfl rfl ?_
      refine go_icmpN (q := 14) X1 hx (hb hby d8_11) (XT.ii_ge_f (by decide)) rfl ?_
      refine go_aload_n (q := 15) X1 hx (hb hby d8_14) (v := (.ref a1)) rfl rfl rfl ?_
      refine go_iload_n (q := 16) X1 hx (hb hby d8_15) (v := (2 : Int32)) rfl rfl ?_
      have f4 : Exa Z h1 a1 "java/lang/String" := (E_11.keep K1)
      have f5 : Str4 Z h1 a1 x0 x1 x2 x3 := (Str4.keep P_0 K1)
      have O6 : Old Z n0 h1 := (O0.keep K1 all0)
      refine go_virtual (q := 19) X1 hx hZ hown (y := (⟨"java/lang/String", "charAt", "(I)C"⟩ : MethodName)) (z := (⟨"java/lang/String", "charAt", "(I)C"⟩ : MethodName)) (a := a1) (w61 hw) (w62 hw) (notFace_of_selects (args := #[]) (mvT hZ (w64 hw))) (w64 hw) (w63 hw) (w8 hw) (w65 hw) (by decide) e1 f4 (b15_2 l Z a0 hw a1 zc sf rsf x0 x1 x2 x3 h1 n0 O6 f5 S_1 hr_2 S_3 S_4 S_5 S_6 hr_9) (argsL := [(.int (2 : Int32))]) (rest := []) rfl (lenOf pd_13 rfl) rfl (by rw [hml]; rfl) (W := 0) (Nat.le_of_eq rfl) (hb hby d8_16) (by decide) (by decide) (by decide) (by decide) rfl ?_
      rintro T7 h7 _ L7 X7 e7 ⟨rfl, M7, K7⟩
      have N7 := Fr.app N1 M7
      refine go_istore (q := 21) X7 hx (hb hby d8_19) (l' := #[.val (.ref a1), .val (.int (1 : Int32)), .val (.int (4 : Int32)), .val (.int (2 : Int32)), .val (.int x2)]) rfl rfl ?_
      refine go_iload (q := 23) X7 hx (hb hby d8_21) (v := x2) rfl rfl ?_
      refine go_bipush (q := 25) X7 hx (hb hby d8_23) (v := (48 : Int32)) (by decide) rfl ?_
      by_cases c8 : x2 < (48 : Int32)
      · refine go_icmpY (q := 35) X7 hx (hb hby d8_25) (XT.ii_lt_t c8) (by decide) (by decide) ?_
        refine go_iconst (q := 36) X7 hx (hb hby d8_35) (v := (0 : Int32)) (by decide) rfl ?_
        refine go_retI X7 hx hret hlk e7 (hb hby d8_36) (by simp) (by decide) (by decide) (by decide) ?_
        exact ⟨(0 : Int32), rfl, N7, (((Keep.refl h0 []).trans K1 all0).trans K7 all0), (by simp [c2, c3, c8])⟩
      · refine go_icmpN (q := 28) X7 hx (hb hby d8_25) (XT.ii_lt_f c8) rfl ?_
        refine go_iload (q := 30) X7 hx (hb hby d8_28) (v := x2) rfl rfl ?_
        refine go_bipush (q := 32) X7 hx (hb hby d8_30) (v := (57 : Int32)) (by decide) rfl ?_
        by_cases c9 : (57 : Int32) < x2
        · refine go_icmpN (q := 35) X7 hx (hb hby d8_32) (XT.ii_le_f c9) rfl ?_
          refine go_iconst (q := 36) X7 hx (hb hby d8_35) (v := (0 : Int32)) (by decide) rfl ?_
          refine go_retI X7 hx hret hlk e7 (hb hby d8_36) (by simp) (by decide) (by decide) (by decide) ?_
          exact ⟨(0 : Int32), rfl, N7, (((Keep.refl h0 []).trans K1 all0).trans K7 all0), (by simp [c2, c3, c8, c9])⟩
        · refine go_icmpY (q := 37) X7 hx (hb hby d8_32) (XT.ii_le_t c9) (by decide) (by decide) ?_
          refine go_iinc (q := 40) X7 hx (hb hby d8_37) (x := (2 : Int32)) (v := (3 : Int32)) rfl (by first | rfl | decide) (l' := #[.val (.ref a1), .val (.int (1 : Int32)), .val (.int (4 : Int32)), .val (.int (3 : Int32)), .val (.int x2)]) rfl rfl ?_
          refine go_goto (q := 9) X7 hx (hb hby d8_40) (by decide) (by decide) ?_
          refine go_iload_n (q := 10) X7 hx (hb hby d8_9) (v := (3 : Int32)) rfl rfl ?_
          refine go_iload_n (q := 11) X7 hx (hb hby d8_10) (v := (4 : Int32)) rfl rfl ?_
          refine go_icmpN (q := 14) X7 hx (hb hby d8_11) (XT.ii_ge_f (by decide)) rfl ?_
          refine go_aload_n (q := 15) X7 hx (hb hby d8_14) (v := (.ref a1)) rfl rfl rfl ?_
          refine go_iload_n (q := 16) X7 hx (hb hby d8_15) (v := (3 : Int32)) rfl rfl ?_
          have f10 : Exa Z h7 a1 "java/lang/String" := (f4.keep K7)
          have f11 : Str4 Z h7 a1 x0 x1 x2 x3 := (Str4.keep f5 K7)
          have O12 : Old Z n0 h7 := (O6.keep K7 all0)
          refine go_virtual (q := 19) X7 hx hZ hown (y := (⟨"java/lang/String", "charAt", "(I)C"⟩ : MethodName)) (z := (⟨"java/lang/String", "charAt", "(I)C"⟩ : MethodName)) (a := a1) (w61 hw) (w62 hw) (notFace_of_selects (args := #[]) (mvT hZ (w64 hw))) (w64 hw) (w63 hw) (w8 hw) (w65 hw) (by decide) e7 f10 (b15_3 l Z a0 hw a1 zc sf rsf x0 x1 x2 x3 h7 n0 O12 f11 S_1 hr_2 S_3 S_4 S_5 S_6 hr_10) (argsL := [(.int (3 : Int32))]) (rest := []) rfl (lenOf pd_13 rfl) rfl (by rw [hml]; rfl) (W := 0) (Nat.le_of_eq rfl) (hb hby d8_16) (by decide) (by decide) (by decide) (by decide) rfl ?_
          rintro T13 h13 _ L13 X13 e13 ⟨rfl, M13, K13⟩
          have N13 := Fr.app N7 M13
          refine go_istore (q := 21) X13 hx (hb hby d8_19) (l' := #[.val (.ref a1), .val (.int (1 : Int32)), .val (.int (4 : Int32)), .val (.int (3 : Int32)), .val (.int x3)]) rfl rfl ?_
          refine go_iload (q := 23) X13 hx (hb hby d8_21) (v := x3) rfl rfl ?_
          refine go_bipush (q := 25) X13 hx (hb hby d8_23) (v := (48 : Int32)) (by decide) rfl ?_
          by_cases c14 : x3 < (48 : Int32)
          · refine go_icmpY (q := 35) X13 hx (hb hby d8_25) (XT.ii_lt_t c14) (by decide) (by decide) ?_
            refine go_iconst (q := 36) X13 hx (hb hby d8_35) (v := (0 : Int32)) (by decide) rfl ?_
            refine go_retI X13 hx hret hlk e13 (hb hby d8_36) (by simp) (by decide) (by decide) (by decide) ?_
            exact ⟨(0 : Int32), rfl, N13, ((((Keep.refl h0 []).trans K1 all0).trans K7 all0).trans K13 all0), (by simp [c2, c3, c8, c9, c14])⟩
          · refine go_icmpN (q := 28) X13 hx (hb hby d8_25) (XT.ii_lt_f c14) rfl ?_
            refine go_iload (q := 30) X13 hx (hb hby d8_28) (v := x3) rfl rfl ?_
            refine go_bipush (q := 32) X13 hx (hb hby d8_30) (v := (57 : Int32)) (by decide) rfl ?_
            by_cases c15 : (57 : Int32) < x3
            · refine go_icmpN (q := 35) X13 hx (hb hby d8_32) (XT.ii_le_f c15) rfl ?_
              refine go_iconst (q := 36) X13 hx (hb hby d8_35) (v := (0 : Int32)) (by decide) rfl ?_
              refine go_retI X13 hx hret hlk e13 (hb hby d8_36) (by simp) (by decide) (by decide) (by decide) ?_
              exact ⟨(0 : Int32), rfl, N13, ((((Keep.refl h0 []).trans K1 all0).trans K7 all0).trans K13 all0), (by simp [c2, c3, c8, c9, c14, c15])⟩
            · refine go_icmpY (q := 37) X13 hx (hb hby d8_32) (XT.ii_le_t c15) (by decide) (by decide) ?_
              refine go_iinc (q := 40) X13 hx (hb hby d8_37) (x := (3 : Int32)) (v := (4 : Int32)) rfl (by first | rfl | decide) (l' := #[.val (.ref a1), .val (.int (1 : Int32)), .val (.int (4 : Int32)), .val (.int (4 : Int32)), .val (.int x3)]) rfl rfl ?_
              refine go_goto (q := 9) X13 hx (hb hby d8_40) (by decide) (by decide) ?_
              refine go_iload_n (q := 10) X13 hx (hb hby d8_9) (v := (4 : Int32)) rfl rfl ?_
              refine go_iload_n (q := 11) X13 hx (hb hby d8_10) (v := (4 : Int32)) rfl rfl ?_
              refine go_icmpY (q := 43) X13 hx (hb hby d8_11) (XT.ii_ge_t (by decide)) (by decide) (by decide) ?_
              refine go_iconst (q := 44) X13 hx (hb hby d8_43) (v := (1 : Int32)) (by decide) rfl ?_
              refine go_retI X13 hx hret hlk e13 (hb hby d8_44) (by simp) (by decide) (by decide) (by decide) ?_
              exact ⟨(1 : Int32), rfl, N13, ((((Keep.refl h0 []).trans K1 all0).trans K7 all0).trans K13 all0), (by simp [c2, c3, c8, c9, c14, c15])⟩
set_option maxRecDepth 65536 in
set_option maxHeartbeats 40000000 in
theorem b8_8 (l : Launch) (Z : State) (a0 : Array Value) (hw : ∀ d ∈ tables_1, d.before a0 Z = true) (a1 : Addr) (zc : Int32) (sf : Value) (rsf : sf.isRef = true) (x0 : Int32) (x1 : Int32) (x2 : Int32) (x3 : Int32) (h0 : Heap) (n0 : Nat) (O0 : Old Z n0 h0) (P_0 : Str4 Z h0 a1 x0 x1 x2 x3) (S_1 : Sta Z Z.heap "java/lang/String" "COMPACT_STRINGS" "Z" (.int zc)) (hr_2 : (¬ zc = 0)) (S_3 : Sta Z Z.heap "jdk/internal/util/Preconditions" "SIOOBE_FORMATTER" "Ljava/util/function/BiFunction;" sf) (S_4 : Sta Z Z.heap "java/lang/StringUTF16" "$assertionsDisabled" "Z" (.int (1 : Int32))) (S_5 : Sta Z Z.heap "java/lang/StringUTF16" "HI_BYTE_SHIFT" "I" (.int (0 : Int32))) (S_6 : Sta Z Z.heap "java/lang/StringUTF16" "LO_BYTE_SHIFT" "I" (.int (8 : Int32))) (hr_7 : (0 ≤ x0.toInt ∧ x0.toInt ≤ 65535)) (hr_8 : (0 ≤ x1.toInt ∧ x1.toInt ≤ 65535)) (hr_9 : (0 ≤ x2.toInt ∧ x2.toInt ≤ 65535)) (hr_10 : (0 ≤ x3.toInt ∧ x3.toInt ≤ 65535)) (E_11 : Exa Z h0 a1 "java/lang/String") :
    Con l Z (⟨"com/example/harborspread/harborspread/Decimals", "isDigits", "(Ljava/lang/String;II)Z"⟩ : MethodName) prog_21_method_11_code 5 (some .boolean) ({ frames := 5, cells := 0, slots := 0, locals := 66 } : Room) #[(.ref a1), (.int (2 : Int32)), (.int (3 : Int32))] h0 (fun v h L => ∃ (r : Int32), v = some (.int r) ∧ Fr n0 L ∧ Keep h0 h [] ∧ ((r = 1 ∧ ((¬ x2 < (48 : Int32) ∧ ¬ (57 : Int32) < x2))) ∨ (r = 0 ∧ ¬ ((¬ x2 < (48 : Int32) ∧ ¬ (57 : Int32) < x2))))) := by
  refine Con.of (plainFor_of_name pn_4) ?_
  intro p e s m below meth c s₁ hx hby hml hZ hown hnm hret hlk X0 e0
  have N0 := Fr.nil n0
  refine go_cast (g' := mkF m 0 #[.val (.ref a1), .val (.int (2 : Int32)), .val (.int (3 : Int32)), .unset, .unset] []) ?_ (by first | (simp [entryFrame, mkF, argsToLocals, Value.category]; done) | rfl)
  refine go_iload_n (q := 1) X0 hx (hb hby d8_0) (v := (2 : Int32)) rfl rfl ?_
  refine go_iload_n (q := 2) X0 hx (hb hby d8_1) (v := (3 : Int32)) rfl rfl ?_
  refine go_icmpY (q := 7) X0 hx (hb hby d8_2) (XT.ii_lt_t (by decide)) (by decide) (by decide) ?_
  refine go_iload_n (q := 8) X0 hx (hb hby d8_7) (v := (2 : Int32)) rfl rfl ?_
  refine go_istore_n (q := 9) X0 hx (hb hby d8_8) (l' := #[.val (.ref a1), .val (.int (2 : Int32)), .val (.int (3 : Int32)), .val (.int (2 : Int32)), .unset]) rfl rfl ?_
  refine go_iload_n (q := 10) X0 hx (hb hby d8_9) (v := (2 : Int32)) rfl rfl ?_
  refine go_iload_n (q := 11) X0 hx (hb hby d8_10) (v := (3 : Int32)) rfl rfl ?_
  refine go_icmpN (q := 14) X0 hx (hb hby d8_11) (XT.ii_ge_f (by decide)) rfl ?_
  refine go_aload_n (q := 15) X0 hx (hb hby d8_14) (v := (.ref a1)) rfl rfl rfl ?_
  refine go_iload_n (q := 16) X0 hx (hb hby d8_15) (v := (2 : Int32)) rfl rfl ?_
  refine go_virtual (q := 19) X0 hx hZ hown (y := (⟨"java/lang/String", "charAt", "(I)C"⟩ : MethodName)) (z := (⟨"java/lang/String", "charAt", "(I)C"⟩ : MethodName)) (a := a1) (w61 hw) (w62 hw) (notFace_of_selects (args := #[]) (mvT hZ (w64 hw))) (w64 hw) (w63 hw) (w8 hw) (w65 hw) (by decide) e0 E_11 (b15_2 l Z a0 hw a1 zc sf rsf x0 x1 x2 x3 h0 n0 O0 P_0 S_1 hr_2 S_3 S_4 S_5 S_6 hr_9) (argsL := [(.int (2 : Int32))]) (rest := []) rfl (lenOf pd_13 rfl) rfl (by rw [hml]; rfl) (W := 0) (Nat.le_of_eq rfl) (hb hby d8_16) (by decide) (by decide) (by decide) (by decide) rfl ?_
  rintro T1 h1 _ L1 X1 e1 ⟨rfl, M1, K1⟩
  have N1 := Fr.app N0 M1
  refine go_istore (q := 21) X1 hx (hb hby d8_19) (l' := #[.val (.ref a1), .val (.int (2 : Int32)), .val (.int (3 : Int32)), .val (.int (2 : Int32)), .val (.int x2)]) rfl rfl ?_
  refine go_iload (q := 23) X1 hx (hb hby d8_21) (v := x2) rfl rfl ?_
  refine go_bipush (q := 25) X1 hx (hb hby d8_23) (v := (48 : Int32)) (by decide) rfl ?_
  by_cases c2 : x2 < (48 : Int32)
  · refine go_icmpY (q := 35) X1 hx (hb hby d8_25) (XT.ii_lt_t c2) (by decide) (by decide) ?_
    refine go_iconst (q := 36) X1 hx (hb hby d8_35) (v := (0 : Int32)) (by decide) rfl ?_
    refine go_retI X1 hx hret hlk e1 (hb hby d8_36) (by simp) (by decide) (by decide) (by decide) ?_
    exact ⟨(0 : Int32), rfl, N1, ((Keep.refl h0 []).trans K1 all0), (by simp [c2])⟩
  · refine go_icmpN (q := 28) X1 hx (hb hby d8_25) (XT.ii_lt_f c2) rfl ?_
    refine go_iload (q := 30) X1 hx (hb hby d8_28) (v := x2) rfl rfl ?_
    refine go_bipush (q := 32) X1 hx (hb hby d8_30) (v := (57 : Int32)) (by decide) rfl ?_
    by_cases c3 : (57 : Int32) < x2
    · refine go_icmpN (q := 35) X1 hx (hb hby d8_32) (XT.ii_le_f c3) rfl ?_
      refine go_iconst (q := 36) X1 hx (hb hby d8_35) (v := (0 : Int32)) (by decide) rfl ?_
      refine go_retI X1 hx hret hlk e1 (hb hby d8_36) (by simp) (by decide) (by decide) (by decide) ?_
      exact ⟨(0 : Int32), rfl, N1, ((Keep.refl h0 []).trans K1 all0), (by simp [c2, c3])⟩
    · refine go_icmpY (q := 37) X1 hx (hb hby d8_32) (XT.ii_le_t c3) (by decide) (by decide) ?_
      refine go_iinc (q := 40) X1 hx (hb hby d8_37) (x := (2 : Int32)) (v := (3 : Int32)) rfl (by first | rfl | decide) (l' := #[.val (.ref a1), .val (.int (2 : Int32)), .val (.int (3 : Int32)), .val (.int (3 : Int32)), .val (.int x2)]) rfl rfl ?_
      refine go_goto (q := 9) X1 hx (hb hby d8_40) (by decide) (by decide) ?_
      refine go_iload_n (q := 10) X1 hx (hb hby d8_9) (v := (3 : Int32)) rfl rfl ?_
      refine go_iload_n (q := 11) X1 hx (hb hby d8_10) (v := (3 : Int32)) rfl rfl ?_
      refine go_icmpY (q := 43) X1 hx (hb hby d8_11) (XT.ii_ge_t (by decide)) (by decide) (by decide) ?_
      refine go_iconst (q := 44) X1 hx (hb hby d8_43) (v := (1 : Int32)) (by decide) rfl ?_
      refine go_retI X1 hx hret hlk e1 (hb hby d8_44) (by simp) (by decide) (by decide) (by decide) ?_
      exact ⟨(1 : Int32), rfl, N1, ((Keep.refl h0 []).trans K1 all0), (by simp [c2, c3])⟩
set_option maxRecDepth 65536 in
set_option maxHeartbeats 40000000 in
theorem b8_9 (l : Launch) (Z : State) (a0 : Array Value) (hw : ∀ d ∈ tables_1, d.before a0 Z = true) (a1 : Addr) (zc : Int32) (sf : Value) (rsf : sf.isRef = true) (x0 : Int32) (x1 : Int32) (x2 : Int32) (x3 : Int32) (h0 : Heap) (n0 : Nat) (O0 : Old Z n0 h0) (P_0 : Str4 Z h0 a1 x0 x1 x2 x3) (S_1 : Sta Z Z.heap "java/lang/String" "COMPACT_STRINGS" "Z" (.int zc)) (hr_2 : (¬ zc = 0)) (S_3 : Sta Z Z.heap "jdk/internal/util/Preconditions" "SIOOBE_FORMATTER" "Ljava/util/function/BiFunction;" sf) (S_4 : Sta Z Z.heap "java/lang/StringUTF16" "$assertionsDisabled" "Z" (.int (1 : Int32))) (S_5 : Sta Z Z.heap "java/lang/StringUTF16" "HI_BYTE_SHIFT" "I" (.int (0 : Int32))) (S_6 : Sta Z Z.heap "java/lang/StringUTF16" "LO_BYTE_SHIFT" "I" (.int (8 : Int32))) (hr_7 : (0 ≤ x0.toInt ∧ x0.toInt ≤ 65535)) (hr_8 : (0 ≤ x1.toInt ∧ x1.toInt ≤ 65535)) (hr_9 : (0 ≤ x2.toInt ∧ x2.toInt ≤ 65535)) (hr_10 : (0 ≤ x3.toInt ∧ x3.toInt ≤ 65535)) (E_11 : Exa Z h0 a1 "java/lang/String") :
    Con l Z (⟨"com/example/harborspread/harborspread/Decimals", "isDigits", "(Ljava/lang/String;II)Z"⟩ : MethodName) prog_21_method_11_code 5 (some .boolean) ({ frames := 5, cells := 0, slots := 0, locals := 66 } : Room) #[(.ref a1), (.int (2 : Int32)), (.int (4 : Int32))] h0 (fun v h L => ∃ (r : Int32), v = some (.int r) ∧ Fr n0 L ∧ Keep h0 h [] ∧ ((r = 1 ∧ ((¬ x2 < (48 : Int32) ∧ ¬ (57 : Int32) < x2) ∧ (¬ x3 < (48 : Int32) ∧ ¬ (57 : Int32) < x3))) ∨ (r = 0 ∧ ¬ ((¬ x2 < (48 : Int32) ∧ ¬ (57 : Int32) < x2) ∧ (¬ x3 < (48 : Int32) ∧ ¬ (57 : Int32) < x3))))) := by
  refine Con.of (plainFor_of_name pn_4) ?_
  intro p e s m below meth c s₁ hx hby hml hZ hown hnm hret hlk X0 e0
  have N0 := Fr.nil n0
  refine go_cast (g' := mkF m 0 #[.val (.ref a1), .val (.int (2 : Int32)), .val (.int (4 : Int32)), .unset, .unset] []) ?_ (by first | (simp [entryFrame, mkF, argsToLocals, Value.category]; done) | rfl)
  refine go_iload_n (q := 1) X0 hx (hb hby d8_0) (v := (2 : Int32)) rfl rfl ?_
  refine go_iload_n (q := 2) X0 hx (hb hby d8_1) (v := (4 : Int32)) rfl rfl ?_
  refine go_icmpY (q := 7) X0 hx (hb hby d8_2) (XT.ii_lt_t (by decide)) (by decide) (by decide) ?_
  refine go_iload_n (q := 8) X0 hx (hb hby d8_7) (v := (2 : Int32)) rfl rfl ?_
  refine go_istore_n (q := 9) X0 hx (hb hby d8_8) (l' := #[.val (.ref a1), .val (.int (2 : Int32)), .val (.int (4 : Int32)), .val (.int (2 : Int32)), .unset]) rfl rfl ?_
  refine go_iload_n (q := 10) X0 hx (hb hby d8_9) (v := (2 : Int32)) rfl rfl ?_
  refine go_iload_n (q := 11) X0 hx (hb hby d8_10) (v := (4 : Int32)) rfl rfl ?_
  refine go_icmpN (q := 14) X0 hx (hb hby d8_11) (XT.ii_ge_f (by decide)) rfl ?_
  refine go_aload_n (q := 15) X0 hx (hb hby d8_14) (v := (.ref a1)) rfl rfl rfl ?_
  refine go_iload_n (q := 16) X0 hx (hb hby d8_15) (v := (2 : Int32)) rfl rfl ?_
  refine go_virtual (q := 19) X0 hx hZ hown (y := (⟨"java/lang/String", "charAt", "(I)C"⟩ : MethodName)) (z := (⟨"java/lang/String", "charAt", "(I)C"⟩ : MethodName)) (a := a1) (w61 hw) (w62 hw) (notFace_of_selects (args := #[]) (mvT hZ (w64 hw))) (w64 hw) (w63 hw) (w8 hw) (w65 hw) (by decide) e0 E_11 (b15_2 l Z a0 hw a1 zc sf rsf x0 x1 x2 x3 h0 n0 O0 P_0 S_1 hr_2 S_3 S_4 S_5 S_6 hr_9) (argsL := [(.int (2 : Int32))]) (rest := []) rfl (lenOf pd_13 rfl) rfl (by rw [hml]; rfl) (W := 0) (Nat.le_of_eq rfl) (hb hby d8_16) (by decide) (by decide) (by decide) (by decide) rfl ?_
  rintro T1 h1 _ L1 X1 e1 ⟨rfl, M1, K1⟩
  have N1 := Fr.app N0 M1
  refine go_istore (q := 21) X1 hx (hb hby d8_19) (l' := #[.val (.ref a1), .val (.int (2 : Int32)), .val (.int (4 : Int32)), .val (.int (2 : Int32)), .val (.int x2)]) rfl rfl ?_
  refine go_iload (q := 23) X1 hx (hb hby d8_21) (v := x2) rfl rfl ?_
  refine go_bipush (q := 25) X1 hx (hb hby d8_23) (v := (48 : Int32)) (by decide) rfl ?_
  by_cases c2 : x2 < (48 : Int32)
  · refine go_icmpY (q := 35) X1 hx (hb hby d8_25) (XT.ii_lt_t c2) (by decide) (by decide) ?_
    refine go_iconst (q := 36) X1 hx (hb hby d8_35) (v := (0 : Int32)) (by decide) rfl ?_
    refine go_retI X1 hx hret hlk e1 (hb hby d8_36) (by simp) (by decide) (by decide) (by decide) ?_
    exact ⟨(0 : Int32), rfl, N1, ((Keep.refl h0 []).trans K1 all0), (by simp [c2])⟩
  · refine go_icmpN (q := 28) X1 hx (hb hby d8_25) (XT.ii_lt_f c2) rfl ?_
    refine go_iload (q := 30) X1 hx (hb hby d8_28) (v := x2) rfl rfl ?_
    refine go_bipush (q := 32) X1 hx (hb hby d8_30) (v := (57 : Int32)) (by decide) rfl ?_
    by_cases c3 : (57 : Int32) < x2
    · refine go_icmpN (q := 35) X1 hx (hb hby d8_32) (XT.ii_le_f c3) rfl ?_
      refine go_iconst (q := 36) X1 hx (hb hby d8_35) (v := (0 : Int32)) (by decide) rfl ?_
      refine go_retI X1 hx hret hlk e1 (hb hby d8_36) (by simp) (by decide) (by decide) (by decide) ?_
      exact ⟨(0 : Int32), rfl, N1, ((Keep.refl h0 []).trans K1 all0), (by simp [c2, c3])⟩
    · refine go_icmpY (q := 37) X1 hx (hb hby d8_32) (XT.ii_le_t c3) (by decide) (by decide) ?_
      refine go_iinc (q := 40) X1 hx (hb hby d8_37) (x := (2 : Int32)) (v := (3 : Int32)) rfl (by first | rfl | decide) (l' := #[.val (.ref a1), .val (.int (2 : Int32)), .val (.int (4 : Int32)), .val (.int (3 : Int32)), .val (.int x2)]) rfl rfl ?_
      refine go_goto (q := 9) X1 hx (hb hby d8_40) (by decide) (by decide) ?_
      refine go_iload_n (q := 10) X1 hx (hb hby d8_9) (v := (3 : Int32)) rfl rfl ?_
      refine go_iload_n (q := 11) X1 hx (hb hby d8_10) (v := (4 : Int32)) rfl rfl ?_
      refine go_icmpN (q := 14) X1 hx (hb hby d8_11) (XT.ii_ge_f (by decide)) rfl ?_
      refine go_aload_n (q := 15) X1 hx (hb hby d8_14) (v := (.ref a1)) rfl rfl rfl ?_
      refine go_iload_n (q := 16) X1 hx (hb hby d8_15) (v := (3 : Int32)) rfl rfl ?_
      have f4 : Exa Z h1 a1 "java/lang/String" := (E_11.keep K1)
      have f5 : Str4 Z h1 a1 x0 x1 x2 x3 := (Str4.keep P_0 K1)
      have O6 : Old Z n0 h1 := (O0.keep K1 all0)
      refine go_virtual (q := 19) X1 hx hZ hown (y := (⟨"java/lang/String", "charAt", "(I)C"⟩ : MethodName)) (z := (⟨"java/lang/String", "charAt", "(I)C"⟩ : MethodName)) (a := a1) (w61 hw) (w62 hw) (notFace_of_selects (args := #[]) (mvT hZ (w64 hw))) (w64 hw) (w63 hw) (w8 hw) (w65 hw) (by decide) e1 f4 (b15_3 l Z a0 hw a1 zc sf rsf x0 x1 x2 x3 h1 n0 O6 f5 S_1 hr_2 S_3 S_4 S_5 S_6 hr_10) (argsL := [(.int (3 : Int32))]) (rest := []) rfl (lenOf pd_13 rfl) rfl (by rw [hml]; rfl) (W := 0) (Nat.le_of_eq rfl) (hb hby d8_16) (by decide) (by decide) (by decide) (by decide) rfl ?_
      rintro T7 h7 _ L7 X7 e7 ⟨rfl, M7, K7⟩
      have N7 := Fr.app N1 M7
      refine go_istore (q := 21) X7 hx (hb hby d8_19) (l' := #[.val (.ref a1), .val (.int (2 : Int32)), .val (.int (4 : Int32)), .val (.int (3 : Int32)), .val (.int x3)]) rfl rfl ?_
      refine go_iload (q := 23) X7 hx (hb hby d8_21) (v := x3) rfl rfl ?_
      refine go_bipush (q := 25) X7 hx (hb hby d8_23) (v := (48 : Int32)) (by decide) rfl ?_
      by_cases c8 : x3 < (48 : Int32)
      · refine go_icmpY (q := 35) X7 hx (hb hby d8_25) (XT.ii_lt_t c8) (by decide) (by decide) ?_
        refine go_iconst (q := 36) X7 hx (hb hby d8_35) (v := (0 : Int32)) (by decide) rfl ?_
        refine go_retI X7 hx hret hlk e7 (hb hby d8_36) (by simp) (by decide) (by decide) (by decide) ?_
        exact ⟨(0 : Int32), rfl, N7, (((Keep.refl h0 []).trans K1 all0).trans K7 all0), (by simp [c2, c3, c8])⟩
      · refine go_icmpN (q := 28) X7 hx (hb hby d8_25) (XT.ii_lt_f c8) rfl ?_
        refine go_iload (q := 30) X7 hx (hb hby d8_28) (v := x3) rfl rfl ?_
        refine go_bipush (q := 32) X7 hx (hb hby d8_30) (v := (57 : Int32)) (by decide) rfl ?_
        by_cases c9 : (57 : Int32) < x3
        · refine go_icmpN (q := 35) X7 hx (hb hby d8_32) (XT.ii_le_f c9) rfl ?_
          refine go_iconst (q := 36) X7 hx (hb hby d8_35) (v := (0 : Int32)) (by decide) rfl ?_
          refine go_retI X7 hx hret hlk e7 (hb hby d8_36) (by simp) (by decide) (by decide) (by decide) ?_
          exact ⟨(0 : Int32), rfl, N7, (((Keep.refl h0 []).trans K1 all0).trans K7 all0), (by simp [c2, c3, c8, c9])⟩
        · refine go_icmpY (q := 37) X7 hx (hb hby d8_32) (XT.ii_le_t c9) (by decide) (by decide) ?_
          refine go_iinc (q := 40) X7 hx (hb hby d8_37) (x := (3 : Int32)) (v := (4 : Int32)) rfl (by first | rfl | decide) (l' := #[.val (.ref a1), .val (.int (2 : Int32)), .val (.int (4 : Int32)), .val (.int (4 : Int32)), .val (.int x3)]) rfl rfl ?_
          refine go_goto (q := 9) X7 hx (hb hby d8_40) (by decide) (by decide) ?_
          refine go_iload_n (q := 10) X7 hx (hb hby d8_9) (v := (4 : Int32)) rfl rfl ?_
          refine go_iload_n (q := 11) X7 hx (hb hby d8_10) (v := (4 : Int32)) rfl rfl ?_
          refine go_icmpY (q := 43) X7 hx (hb hby d8_11) (XT.ii_ge_t (by decide)) (by decide) (by decide) ?_
          refine go_iconst (q := 44) X7 hx (hb hby d8_43) (v := (1 : Int32)) (by decide) rfl ?_
          refine go_retI X7 hx hret hlk e7 (hb hby d8_44) (by simp) (by decide) (by decide) (by decide) ?_
          exact ⟨(1 : Int32), rfl, N7, (((Keep.refl h0 []).trans K1 all0).trans K7 all0), (by simp [c2, c3, c8, c9])⟩
set_option maxRecDepth 65536 in
set_option maxHeartbeats 40000000 in
theorem b8_10 (l : Launch) (Z : State) (a0 : Array Value) (hw : ∀ d ∈ tables_1, d.before a0 Z = true) (a1 : Addr) (zc : Int32) (sf : Value) (rsf : sf.isRef = true) (x0 : Int32) (x1 : Int32) (x2 : Int32) (x3 : Int32) (h0 : Heap) (n0 : Nat) (O0 : Old Z n0 h0) (P_0 : Str4 Z h0 a1 x0 x1 x2 x3) (S_1 : Sta Z Z.heap "java/lang/String" "COMPACT_STRINGS" "Z" (.int zc)) (hr_2 : (¬ zc = 0)) (S_3 : Sta Z Z.heap "jdk/internal/util/Preconditions" "SIOOBE_FORMATTER" "Ljava/util/function/BiFunction;" sf) (S_4 : Sta Z Z.heap "java/lang/StringUTF16" "$assertionsDisabled" "Z" (.int (1 : Int32))) (S_5 : Sta Z Z.heap "java/lang/StringUTF16" "HI_BYTE_SHIFT" "I" (.int (0 : Int32))) (S_6 : Sta Z Z.heap "java/lang/StringUTF16" "LO_BYTE_SHIFT" "I" (.int (8 : Int32))) (hr_7 : (0 ≤ x0.toInt ∧ x0.toInt ≤ 65535)) (hr_8 : (0 ≤ x1.toInt ∧ x1.toInt ≤ 65535)) (hr_9 : (0 ≤ x2.toInt ∧ x2.toInt ≤ 65535)) (hr_10 : (0 ≤ x3.toInt ∧ x3.toInt ≤ 65535)) (E_11 : Exa Z h0 a1 "java/lang/String") :
    Con l Z (⟨"com/example/harborspread/harborspread/Decimals", "isDigits", "(Ljava/lang/String;II)Z"⟩ : MethodName) prog_21_method_11_code 5 (some .boolean) ({ frames := 5, cells := 0, slots := 0, locals := 66 } : Room) #[(.ref a1), (.int (3 : Int32)), (.int (4 : Int32))] h0 (fun v h L => ∃ (r : Int32), v = some (.int r) ∧ Fr n0 L ∧ Keep h0 h [] ∧ ((r = 1 ∧ ((¬ x3 < (48 : Int32) ∧ ¬ (57 : Int32) < x3))) ∨ (r = 0 ∧ ¬ ((¬ x3 < (48 : Int32) ∧ ¬ (57 : Int32) < x3))))) := by
  refine Con.of (plainFor_of_name pn_4) ?_
  intro p e s m below meth c s₁ hx hby hml hZ hown hnm hret hlk X0 e0
  have N0 := Fr.nil n0
  refine go_cast (g' := mkF m 0 #[.val (.ref a1), .val (.int (3 : Int32)), .val (.int (4 : Int32)), .unset, .unset] []) ?_ (by first | (simp [entryFrame, mkF, argsToLocals, Value.category]; done) | rfl)
  refine go_iload_n (q := 1) X0 hx (hb hby d8_0) (v := (3 : Int32)) rfl rfl ?_
  refine go_iload_n (q := 2) X0 hx (hb hby d8_1) (v := (4 : Int32)) rfl rfl ?_
  refine go_icmpY (q := 7) X0 hx (hb hby d8_2) (XT.ii_lt_t (by decide)) (by decide) (by decide) ?_
  refine go_iload_n (q := 8) X0 hx (hb hby d8_7) (v := (3 : Int32)) rfl rfl ?_
  refine go_istore_n (q := 9) X0 hx (hb hby d8_8) (l' := #[.val (.ref a1), .val (.int (3 : Int32)), .val (.int (4 : Int32)), .val (.int (3 : Int32)), .unset]) rfl rfl ?_
  refine go_iload_n (q := 10) X0 hx (hb hby d8_9) (v := (3 : Int32)) rfl rfl ?_
  refine go_iload_n (q := 11) X0 hx (hb hby d8_10) (v := (4 : Int32)) rfl rfl ?_
  refine go_icmpN (q := 14) X0 hx (hb hby d8_11) (XT.ii_ge_f (by decide)) rfl ?_
  refine go_aload_n (q := 15) X0 hx (hb hby d8_14) (v := (.ref a1)) rfl rfl rfl ?_
  refine go_iload_n (q := 16) X0 hx (hb hby d8_15) (v := (3 : Int32)) rfl rfl ?_
  refine go_virtual (q := 19) X0 hx hZ hown (y := (⟨"java/lang/String", "charAt", "(I)C"⟩ : MethodName)) (z := (⟨"java/lang/String", "charAt", "(I)C"⟩ : MethodName)) (a := a1) (w61 hw) (w62 hw) (notFace_of_selects (args := #[]) (mvT hZ (w64 hw))) (w64 hw) (w63 hw) (w8 hw) (w65 hw) (by decide) e0 E_11 (b15_3 l Z a0 hw a1 zc sf rsf x0 x1 x2 x3 h0 n0 O0 P_0 S_1 hr_2 S_3 S_4 S_5 S_6 hr_10) (argsL := [(.int (3 : Int32))]) (rest := []) rfl (lenOf pd_13 rfl) rfl (by rw [hml]; rfl) (W := 0) (Nat.le_of_eq rfl) (hb hby d8_16) (by decide) (by decide) (by decide) (by decide) rfl ?_
  rintro T1 h1 _ L1 X1 e1 ⟨rfl, M1, K1⟩
  have N1 := Fr.app N0 M1
  refine go_istore (q := 21) X1 hx (hb hby d8_19) (l' := #[.val (.ref a1), .val (.int (3 : Int32)), .val (.int (4 : Int32)), .val (.int (3 : Int32)), .val (.int x3)]) rfl rfl ?_
  refine go_iload (q := 23) X1 hx (hb hby d8_21) (v := x3) rfl rfl ?_
  refine go_bipush (q := 25) X1 hx (hb hby d8_23) (v := (48 : Int32)) (by decide) rfl ?_
  by_cases c2 : x3 < (48 : Int32)
  · refine go_icmpY (q := 35) X1 hx (hb hby d8_25) (XT.ii_lt_t c2) (by decide) (by decide) ?_
    refine go_iconst (q := 36) X1 hx (hb hby d8_35) (v := (0 : Int32)) (by decide) rfl ?_
    refine go_retI X1 hx hret hlk e1 (hb hby d8_36) (by simp) (by decide) (by decide) (by decide) ?_
    exact ⟨(0 : Int32), rfl, N1, ((Keep.refl h0 []).trans K1 all0), (by simp [c2])⟩
  · refine go_icmpN (q := 28) X1 hx (hb hby d8_25) (XT.ii_lt_f c2) rfl ?_
    refine go_iload (q := 30) X1 hx (hb hby d8_28) (v := x3) rfl rfl ?_
    refine go_bipush (q := 32) X1 hx (hb hby d8_30) (v := (57 : Int32)) (by decide) rfl ?_
    by_cases c3 : (57 : Int32) < x3
    · refine go_icmpN (q := 35) X1 hx (hb hby d8_32) (XT.ii_le_f c3) rfl ?_
      refine go_iconst (q := 36) X1 hx (hb hby d8_35) (v := (0 : Int32)) (by decide) rfl ?_
      refine go_retI X1 hx hret hlk e1 (hb hby d8_36) (by simp) (by decide) (by decide) (by decide) ?_
      exact ⟨(0 : Int32), rfl, N1, ((Keep.refl h0 []).trans K1 all0), (by simp [c2, c3])⟩
    · refine go_icmpY (q := 37) X1 hx (hb hby d8_32) (XT.ii_le_t c3) (by decide) (by decide) ?_
      refine go_iinc (q := 40) X1 hx (hb hby d8_37) (x := (3 : Int32)) (v := (4 : Int32)) rfl (by first | rfl | decide) (l' := #[.val (.ref a1), .val (.int (3 : Int32)), .val (.int (4 : Int32)), .val (.int (4 : Int32)), .val (.int x3)]) rfl rfl ?_
      refine go_goto (q := 9) X1 hx (hb hby d8_40) (by decide) (by decide) ?_
      refine go_iload_n (q := 10) X1 hx (hb hby d8_9) (v := (4 : Int32)) rfl rfl ?_
      refine go_iload_n (q := 11) X1 hx (hb hby d8_10) (v := (4 : Int32)) rfl rfl ?_
      refine go_icmpY (q := 43) X1 hx (hb hby d8_11) (XT.ii_ge_t (by decide)) (by decide) (by decide) ?_
      refine go_iconst (q := 44) X1 hx (hb hby d8_43) (v := (1 : Int32)) (by decide) rfl ?_
      refine go_retI X1 hx hret hlk e1 (hb hby d8_44) (by simp) (by decide) (by decide) (by decide) ?_
      exact ⟨(1 : Int32), rfl, N1, ((Keep.refl h0 []).trans K1 all0), (by simp [c2, c3])⟩
set_option maxRecDepth 65536 in
set_option maxHeartbeats 40000000 in
theorem b14 (l : Launch) (Z : State) (a0 : Array Value) (hw : ∀ d ∈ tables_1, d.before a0 Z = true) (x : Int32) (i : Int32) (f : Int32) (t : Int32) (h0 : Heap) (n0 : Nat) (O0 : Old Z n0 h0) (hr_0 : (i < f)) :
    Con l Z (⟨"com/example/harborspread/harborspread/DecimalsIsDigitsPinLaw", "fine", "(CIII)Z"⟩ : MethodName) method_3_code 4 (some .boolean) ({ frames := 0, cells := 0, slots := 0, locals := 0 } : Room) #[(.int x), (.int i), (.int f), (.int t)] h0 (fun v h L => v = some (.int (1 : Int32)) ∧ Fr n0 L ∧ Keep h0 h []) := by
  refine Con.of (plainFor_of_name pn_5) ?_
  intro p e s m below meth c s₁ hx hby hml hZ hown hnm hret hlk X0 e0
  have N0 := Fr.nil n0
  refine go_cast (g' := mkF m 0 #[.val (.int x), .val (.int i), .val (.int f), .val (.int t)] []) ?_ (by first | (simp [entryFrame, mkF, argsToLocals, Value.category]; done) | rfl)
  refine go_iload_n (q := 1) X0 hx (hb hby d14_0) (v := i) rfl rfl ?_
  refine go_iload_n (q := 2) X0 hx (hb hby d14_1) (v := f) rfl rfl ?_
  refine go_icmpY (q := 22) X0 hx (hb hby d14_2) (XT.ii_lt_t hr_0) (by decide) (by decide) ?_
  refine go_iconst (q := 23) X0 hx (hb hby d14_22) (v := (1 : Int32)) (by decide) rfl ?_
  refine go_goto (q := 27) X0 hx (hb hby d14_23) (by decide) (by decide) ?_
  refine go_retI X0 hx hret hlk e0 (hb hby d14_27) (by simp) (by decide) (by decide) (by decide) ?_
  exact ⟨rfl, N0, (Keep.refl h0 [])⟩
set_option maxRecDepth 65536 in
set_option maxHeartbeats 40000000 in
theorem b14_1 (l : Launch) (Z : State) (a0 : Array Value) (hw : ∀ d ∈ tables_1, d.before a0 Z = true) (x : Int32) (i : Int32) (f : Int32) (t : Int32) (h0 : Heap) (n0 : Nat) (O0 : Old Z n0 h0) (hr_0 : (¬ i < f)) (hr_1 : (¬ i < t)) :
    Con l Z (⟨"com/example/harborspread/harborspread/DecimalsIsDigitsPinLaw", "fine", "(CIII)Z"⟩ : MethodName) method_3_code 4 (some .boolean) ({ frames := 0, cells := 0, slots := 0, locals := 0 } : Room) #[(.int x), (.int i), (.int f), (.int t)] h0 (fun v h L => v = some (.int (1 : Int32)) ∧ Fr n0 L ∧ Keep h0 h []) := by
  refine Con.of (plainFor_of_name pn_5) ?_
  intro p e s m below meth c s₁ hx hby hml hZ hown hnm hret hlk X0 e0
  have N0 := Fr.nil n0
  refine go_cast (g' := mkF m 0 #[.val (.int x), .val (.int i), .val (.int f), .val (.int t)] []) ?_ (by first | (simp [entryFrame, mkF, argsToLocals, Value.category]; done) | rfl)
  refine go_iload_n (q := 1) X0 hx (hb hby d14_0) (v := i) rfl rfl ?_
  refine go_iload_n (q := 2) X0 hx (hb hby d14_1) (v := f) rfl rfl ?_
  refine go_icmpN (q := 5) X0 hx (hb hby d14_2) (XT.ii_lt_f hr_0) rfl ?_
  refine go_iload_n (q := 6) X0 hx (hb hby d14_5) (v := i) rfl rfl ?_
  refine go_iload_n (q := 7) X0 hx (hb hby d14_6) (v := t) rfl rfl ?_
  refine go_icmpY (q := 22) X0 hx (hb hby d14_7) (XT.ii_ge_t hr_1) (by decide) (by decide) ?_
  refine go_iconst (q := 23) X0 hx (hb hby d14_22) (v := (1 : Int32)) (by decide) rfl ?_
  refine go_goto (q := 27) X0 hx (hb hby d14_23) (by decide) (by decide) ?_
  refine go_retI X0 hx hret hlk e0 (hb hby d14_27) (by simp) (by decide) (by decide) (by decide) ?_
  exact ⟨rfl, N0, (Keep.refl h0 [])⟩
set_option maxRecDepth 65536 in
set_option maxHeartbeats 40000000 in
theorem b14_2 (l : Launch) (Z : State) (a0 : Array Value) (hw : ∀ d ∈ tables_1, d.before a0 Z = true) (x : Int32) (i : Int32) (f : Int32) (t : Int32) (h0 : Heap) (n0 : Nat) (O0 : Old Z n0 h0) (hr_0 : (¬ i < f)) (hr_1 : (i < t)) :
    Con l Z (⟨"com/example/harborspread/harborspread/DecimalsIsDigitsPinLaw", "fine", "(CIII)Z"⟩ : MethodName) method_3_code 4 (some .boolean) ({ frames := 0, cells := 0, slots := 0, locals := 0 } : Room) #[(.int x), (.int i), (.int f), (.int t)] h0 (fun v h L => ∃ (r : Int32), v = some (.int r) ∧ Fr n0 L ∧ Keep h0 h [] ∧ ((r = 1 ∧ (¬ x < (48 : Int32) ∧ ¬ (57 : Int32) < x)) ∨ (r = 0 ∧ ¬ (¬ x < (48 : Int32) ∧ ¬ (57 : Int32) < x)))) := by
  refine Con.of (plainFor_of_name pn_5) ?_
  intro p e s m below meth c s₁ hx hby hml hZ hown hnm hret hlk X0 e0
  have N0 := Fr.nil n0
  refine go_cast (g' := mkF m 0 #[.val (.int x), .val (.int i), .val (.int f), .val (.int t)] []) ?_ (by first | (simp [entryFrame, mkF, argsToLocals, Value.category]; done) | rfl)
  refine go_iload_n (q := 1) X0 hx (hb hby d14_0) (v := i) rfl rfl ?_
  refine go_iload_n (q := 2) X0 hx (hb hby d14_1) (v := f) rfl rfl ?_
  refine go_icmpN (q := 5) X0 hx (hb hby d14_2) (XT.ii_lt_f hr_0) rfl ?_
  refine go_iload_n (q := 6) X0 hx (hb hby d14_5) (v := i) rfl rfl ?_
  refine go_iload_n (q := 7) X0 hx (hb hby d14_6) (v := t) rfl rfl ?_
  refine go_icmpN (q := 10) X0 hx (hb hby d14_7) (XT.ii_ge_f hr_1) rfl ?_
  refine go_iload_n (q := 11) X0 hx (hb hby d14_10) (v := x) rfl rfl ?_
  refine go_bipush (q := 13) X0 hx (hb hby d14_11) (v := (48 : Int32)) (by decide) rfl ?_
  by_cases c1 : x < (48 : Int32)
  · refine go_icmpY (q := 26) X0 hx (hb hby d14_13) (XT.ii_lt_t c1) (by decide) (by decide) ?_
    refine go_iconst (q := 27) X0 hx (hb hby d14_26) (v := (0 : Int32)) (by decide) rfl ?_
    refine go_retI X0 hx hret hlk e0 (hb hby d14_27) (by simp) (by decide) (by decide) (by decide) ?_
    exact ⟨(0 : Int32), rfl, N0, (Keep.refl h0 []), (by simp [c1])⟩
  · refine go_icmpN (q := 16) X0 hx (hb hby d14_13) (XT.ii_lt_f c1) rfl ?_
    refine go_iload_n (q := 17) X0 hx (hb hby d14_16) (v := x) rfl rfl ?_
    refine go_bipush (q := 19) X0 hx (hb hby d14_17) (v := (57 : Int32)) (by decide) rfl ?_
    by_cases c2 : (57 : Int32) < x
    · refine go_icmpY (q := 26) X0 hx (hb hby d14_19) (XT.ii_gt_t c2) (by decide) (by decide) ?_
      refine go_iconst (q := 27) X0 hx (hb hby d14_26) (v := (0 : Int32)) (by decide) rfl ?_
      refine go_retI X0 hx hret hlk e0 (hb hby d14_27) (by simp) (by decide) (by decide) (by decide) ?_
      exact ⟨(0 : Int32), rfl, N0, (Keep.refl h0 []), (by simp [c1, c2])⟩
    · refine go_icmpN (q := 22) X0 hx (hb hby d14_19) (XT.ii_gt_f c2) rfl ?_
      refine go_iconst (q := 23) X0 hx (hb hby d14_22) (v := (1 : Int32)) (by decide) rfl ?_
      refine go_goto (q := 27) X0 hx (hb hby d14_23) (by decide) (by decide) ?_
      refine go_retI X0 hx hret hlk e0 (hb hby d14_27) (by simp) (by decide) (by decide) (by decide) ?_
      exact ⟨(1 : Int32), rfl, N0, (Keep.refl h0 []), (by simp [c1, c2])⟩
set_option maxRecDepth 65536 in
set_option maxHeartbeats 40000000 in
theorem b1 (l : Launch) (Z : State) (a0 : Array Value) (hw : ∀ d ∈ tables_1, d.before a0 Z = true) (pq : Int32) (h0 : Heap) (n0 : Nat) (O0 : Old Z n0 h0)  :
    Con l Z (⟨"com/example/harborspread/harborspread/DecimalsIsDigitsPinLaw", "ch", "(I)C"⟩ : MethodName) method_2_code 1 (some .char) ({ frames := 0, cells := 0, slots := 0, locals := 0 } : Room) #[(.int pq)] h0 (fun v h L => ∃ (r : Int32), v = some (.int r) ∧ Fr n0 L ∧ Keep h0 h [] ∧ (0 ≤ r.toInt ∧ r.toInt ≤ 65535)) := by
  refine Con.of (plainFor_of_name pn_5) ?_
  intro p e s m below meth c s₁ hx hby hml hZ hown hnm hret hlk X0 e0
  have N0 := Fr.nil n0
  refine go_cast (g' := mkF m 0 #[.val (.int pq)] []) ?_ (by first | (simp [entryFrame, mkF, argsToLocals, Value.category]; done) | rfl)
  refine go_iload_n (q := 1) X0 hx (hb hby d1_0) (v := pq) rfl rfl ?_
  refine go_bipush (q := 3) X0 hx (hb hby d1_1) (v := (16 : Int32)) (by decide) rfl ?_
  refine go_iushr (q := 4) X0 hx (hb hby d1_3) (v := (XT.ushr pq (16 : Int32))) rfl rfl ?_
  refine go_iconst (q := 5) X0 hx (hb hby d1_4) (v := (1 : Int32)) (by decide) rfl ?_
  refine go_iand (q := 6) X0 hx (hb hby d1_5) (v := ((XT.ushr pq (16 : Int32)) &&& (1 : Int32))) rfl rfl ?_
  by_cases c1 : ((XT.ushr pq (16 : Int32)) &&& (1 : Int32)) = 0
  · refine go_ifY (q := 21) X0 hx (hb hby d1_6) (XT.i0_eq_t c1) (by decide) (by decide) ?_
    refine go_iload_n (q := 22) X0 hx (hb hby d1_21) (v := pq) rfl rfl ?_
    refine go_ldcI (q := 24) X0 hx hZ hown (w4 hw) (hb hby d1_22) rfl ?_
    refine go_iand (q := 25) X0 hx (hb hby d1_24) (v := (pq &&& (65535 : Int32))) rfl rfl ?_
    refine go_i2c (q := 26) (v := (pq &&& (65535 : Int32))) X0 hx (hb hby d1_25) (own_i2c (own_c16 pq)) rfl ?_
    refine go_retI X0 hx hret hlk e0 (hb hby d1_26) (by simp) (own_chr (own_c16 pq)).1 (by decide) (by decide) ?_
    exact ⟨(pq &&& (65535 : Int32)), rfl, N0, (Keep.refl h0 []), (own_c16 pq)⟩
  · refine go_ifN (q := 9) X0 hx (hb hby d1_6) (XT.i0_eq_f c1) rfl ?_
    refine go_bipush (q := 11) X0 hx (hb hby d1_9) (v := (47 : Int32)) (by decide) rfl ?_
    refine go_iload_n (q := 12) X0 hx (hb hby d1_11) (v := pq) rfl rfl ?_
    refine go_ldcI (q := 14) X0 hx hZ hown (w4 hw) (hb hby d1_12) rfl ?_
    refine go_iand (q := 15) X0 hx (hb hby d1_14) (v := (pq &&& (65535 : Int32))) rfl rfl ?_
    refine go_bipush (q := 17) X0 hx (hb hby d1_15) (v := (12 : Int32)) (by decide) rfl ?_
    refine go_irem (q := 18) X0 hx (hb hby d1_17) (by decide) rfl ?_
    refine go_iadd (q := 19) X0 hx (hb hby d1_18) (v := ((47 : Int32) + ((pq &&& (65535 : Int32)) % (12 : Int32)))) rfl rfl ?_
    refine go_i2c (q := 20) (v := ((47 : Int32) + ((pq &&& (65535 : Int32)) % (12 : Int32)))) X0 hx (hb hby d1_19) (own_i2c (own_c12 pq)) rfl ?_
    refine go_retI X0 hx hret hlk e0 (hb hby d1_20) (by simp) (own_chr (own_c12 pq)).1 (by decide) (by decide) ?_
    exact ⟨((47 : Int32) + ((pq &&& (65535 : Int32)) % (12 : Int32))), rfl, N0, (Keep.refl h0 []), (own_c12 pq)⟩
set_option maxRecDepth 65536 in
set_option maxHeartbeats 40000000 in
theorem b0 (l : Launch) (Z : State) (a0 : Array Value) (hw : ∀ d ∈ tables_1, d.before a0 Z = true) (p0 : Int32) (p1 : Int32) (p2 : Int32) (p3 : Int32) (p4 : Int32) (zc : Int32) (sf : Value) (rsf : sf.isRef = true) (h0 : Heap) (n0 : Nat) (O0 : Old Z n0 h0) (S_0 : Sta Z Z.heap "java/lang/String" "COMPACT_STRINGS" "Z" (.int zc)) (hr_1 : (¬ zc = 0)) (S_2 : Sta Z Z.heap "jdk/internal/util/Preconditions" "SIOOBE_FORMATTER" "Ljava/util/function/BiFunction;" sf) (S_3 : Sta Z Z.heap "java/lang/StringUTF16" "$assertionsDisabled" "Z" (.int (1 : Int32))) (S_4 : Sta Z Z.heap "java/lang/StringUTF16" "HI_BYTE_SHIFT" "I" (.int (0 : Int32))) (S_5 : Sta Z Z.heap "java/lang/StringUTF16" "LO_BYTE_SHIFT" "I" (.int (8 : Int32))) :
    Con l Z x code maxLocals ret room_1 #[(.int p0), (.int p1), (.int p2), (.int p3), (.int p4)] h0 (fun v h L => v = some (.int (1 : Int32)) ∧ Fr n0 L ∧ Keep h0 h []) := by
  refine Con.of (plainFor_of_name pn_5) ?_
  intro p e s m below meth c s₁ hx hby hml hZ hown hnm hret hlk X0 e0
  have N0 := Fr.nil n0
  refine go_cast (g' := mkF m 0 #[.val (.int p0), .val (.int p1), .val (.int p2), .val (.int p3), .val (.int p4), .unset, .unset, .unset, .unset, .unset, .unset, .unset, .unset, .unset] []) ?_ (by first | (simp [entryFrame, mkF, argsToLocals, Value.category, maxLocals]; done) | rfl)
  refine go_iload_n (q := 1) X0 hx (hb hby at_0) (v := p0) rfl rfl ?_
  refine go_static (q := 4) X0 hx hZ hown (y := (⟨"com/example/harborspread/harborspread/DecimalsIsDigitsPinLaw", "ch", "(I)C"⟩ : MethodName)) (w0 hw) (w1 hw) (w2 hw) (w3 hw) (by decide) e0 (b1 l Z a0 hw p0 h0 n0 O0 ) (argsL := [(.int p0)]) (rest := []) rfl (lenOf pd_13 rfl) rfl (by rw [hml]; rfl) (W := 0) (Nat.le_of_eq rfl) (hb hby at_1) (by decide) (by decide) (by decide) (by decide) rfl ?_
  rintro T1 h1 _ L1 X1 e1 ⟨r_1, rfl, M1, K1, p1_0⟩
  have N1 := Fr.app N0 M1
  refine go_istore (q := 6) X1 hx (hb hby at_4) (l' := #[.val (.int p0), .val (.int p1), .val (.int p2), .val (.int p3), .val (.int p4), .val (.int r_1), .unset, .unset, .unset, .unset, .unset, .unset, .unset, .unset]) rfl rfl ?_
  refine go_iload_n (q := 7) X1 hx (hb hby at_6) (v := p1) rfl rfl ?_
  have O2 : Old Z n0 h1 := (O0.keep K1 all0)
  refine go_static (q := 10) X1 hx hZ hown (y := (⟨"com/example/harborspread/harborspread/DecimalsIsDigitsPinLaw", "ch", "(I)C"⟩ : MethodName)) (w0 hw) (w1 hw) (w2 hw) (w3 hw) (by decide) e1 (b1 l Z a0 hw p1 h1 n0 O2 ) (argsL := [(.int p1)]) (rest := []) rfl (lenOf pd_13 rfl) rfl (by rw [hml]; rfl) (W := 0) (Nat.le_of_eq rfl) (hb hby at_7) (by decide) (by decide) (by decide) (by decide) rfl ?_
  rintro T3 h3 _ L3 X3 e3 ⟨r_3, rfl, M3, K3, p3_0⟩
  have N3 := Fr.app N1 M3
  refine go_istore (q := 12) X3 hx (hb hby at_10) (l' := #[.val (.int p0), .val (.int p1), .val (.int p2), .val (.int p3), .val (.int p4), .val (.int r_1), .val (.int r_3), .unset, .unset, .unset, .unset, .unset, .unset, .unset]) rfl rfl ?_
  refine go_iload_n (q := 13) X3 hx (hb hby at_12) (v := p2) rfl rfl ?_
  have O4 : Old Z n0 h3 := (O2.keep K3 all0)
  refine go_static (q := 16) X3 hx hZ hown (y := (⟨"com/example/harborspread/harborspread/DecimalsIsDigitsPinLaw", "ch", "(I)C"⟩ : MethodName)) (w0 hw) (w1 hw) (w2 hw) (w3 hw) (by decide) e3 (b1 l Z a0 hw p2 h3 n0 O4 ) (argsL := [(.int p2)]) (rest := []) rfl (lenOf pd_13 rfl) rfl (by rw [hml]; rfl) (W := 0) (Nat.le_of_eq rfl) (hb hby at_13) (by decide) (by decide) (by decide) (by decide) rfl ?_
  rintro T5 h5 _ L5 X5 e5 ⟨r_5, rfl, M5, K5, p5_0⟩
  have N5 := Fr.app N3 M5
  refine go_istore (q := 18) X5 hx (hb hby at_16) (l' := #[.val (.int p0), .val (.int p1), .val (.int p2), .val (.int p3), .val (.int p4), .val (.int r_1), .val (.int r_3), .val (.int r_5), .unset, .unset, .unset, .unset, .unset, .unset]) rfl rfl ?_
  refine go_iload_n (q := 19) X5 hx (hb hby at_18) (v := p3) rfl rfl ?_
  have O6 : Old Z n0 h5 := (O4.keep K5 all0)
  refine go_static (q := 22) X5 hx hZ hown (y := (⟨"com/example/harborspread/harborspread/DecimalsIsDigitsPinLaw", "ch", "(I)C"⟩ : MethodName)) (w0 hw) (w1 hw) (w2 hw) (w3 hw) (by decide) e5 (b1 l Z a0 hw p3 h5 n0 O6 ) (argsL := [(.int p3)]) (rest := []) rfl (lenOf pd_13 rfl) rfl (by rw [hml]; rfl) (W := 0) (Nat.le_of_eq rfl) (hb hby at_19) (by decide) (by decide) (by decide) (by decide) rfl ?_
  rintro T7 h7 _ L7 X7 e7 ⟨r_7, rfl, M7, K7, p7_0⟩
  have N7 := Fr.app N5 M7
  refine go_istore (q := 24) X7 hx (hb hby at_22) (l' := #[.val (.int p0), .val (.int p1), .val (.int p2), .val (.int p3), .val (.int p4), .val (.int r_1), .val (.int r_3), .val (.int r_5), .val (.int r_7), .unset, .unset, .unset, .unset, .unset]) rfl rfl ?_
  refine go_iconst (q := 25) X7 hx (hb hby at_24) (v := (4 : Int32)) (by decide) rfl ?_
  have O9 : Old Z n0 h7 := (O6.keep K7 all0)
  refine go_newP (q := 27) (ty := .char) (cap := 4) (vs := [(.int (0 : Int32)), (.int (0 : Int32)), (.int (0 : Int32)), (.int (0 : Int32))]) (dv := (.int (0 : Int32))) X7 hx hZ rfl (w5 hw) e7 (hb hby at_25) (by decide) (by decide) (by decide) (by decide) (by decide) rfl rfl rfl ?_
  intro T8 h8 ob8 k8 g8 X8 e8 E8 A8
  have fr8 : n0 ≤ ob8 := own_ge O9 g8
  have sn8 : h0.size ≤ ob8 := g8 ▸ (Nat.le_trans (Nat.le_trans (Nat.le_trans (Nat.le_trans (Nat.le_refl _) K1.1) K3.1) K5.1) K7.1)
  refine go_astore (q := 29) X8 hx (hb hby at_27) rfl (l' := #[.val (.int p0), .val (.int p1), .val (.int p2), .val (.int p3), .val (.int p4), .val (.int r_1), .val (.int r_3), .val (.int r_5), .val (.int r_7), .val (.ref ob8), .unset, .unset, .unset, .unset]) rfl rfl ?_
  refine go_aload (q := 31) X8 hx (hb hby at_29) (v := (.ref ob8)) rfl rfl rfl ?_
  refine go_iconst (q := 32) X8 hx (hb hby at_31) (v := (0 : Int32)) (by decide) rfl ?_
  refine go_iload (q := 34) X8 hx (hb hby at_32) (v := r_1) rfl rfl ?_
  refine go_castore (q := 35) (j := (0 : Int32)) (i := 0) (vs' := [(.int r_1), (.int (0 : Int32)), (.int (0 : Int32)), (.int (0 : Int32))]) X8 hx hZ e8 A8 (by decide) (by decide) (show (0 : Nat) < 4 by decide) (own_i2c p1_0) rfl (hb hby at_34) rfl ?_
  intro T10 h10 X10 e10 W10 A10
  have N10 := Fr.snoc X10 N7 fr8
  refine go_aload (q := 37) X10 hx (hb hby at_35) (v := (.ref ob8)) rfl rfl rfl ?_
  refine go_iconst (q := 38) X10 hx (hb hby at_37) (v := (1 : Int32)) (by decide) rfl ?_
  refine go_iload (q := 40) X10 hx (hb hby at_38) (v := r_3) rfl rfl ?_
  refine go_castore (q := 41) (j := (1 : Int32)) (i := 1) (vs' := [(.int r_1), (.int r_3), (.int (0 : Int32)), (.int (0 : Int32))]) X10 hx hZ e10 A10 (by decide) (by decide) (show (1 : Nat) < 4 by decide) (own_i2c p3_0) rfl (hb hby at_40) rfl ?_
  intro T11 h11 X11 e11 W11 A11
  have N11 := Fr.snoc X11 N10 fr8
  refine go_aload (q := 43) X11 hx (hb hby at_41) (v := (.ref ob8)) rfl rfl rfl ?_
  refine go_iconst (q := 44) X11 hx (hb hby at_43) (v := (2 : Int32)) (by decide) rfl ?_
  refine go_iload (q := 46) X11 hx (hb hby at_44) (v := r_5) rfl rfl ?_
  refine go_castore (q := 47) (j := (2 : Int32)) (i := 2) (vs' := [(.int r_1), (.int r_3), (.int r_5), (.int (0 : Int32))]) X11 hx hZ e11 A11 (by decide) (by decide) (show (2 : Nat) < 4 by decide) (own_i2c p5_0) rfl (hb hby at_46) rfl ?_
  intro T12 h12 X12 e12 W12 A12
  have N12 := Fr.snoc X12 N11 fr8
  refine go_aload (q := 49) X12 hx (hb hby at_47) (v := (.ref ob8)) rfl rfl rfl ?_
  refine go_iconst (q := 50) X12 hx (hb hby at_49) (v := (3 : Int32)) (by decide) rfl ?_
  refine go_iload (q := 52) X12 hx (hb hby at_50) (v := r_7) rfl rfl ?_
  refine go_castore (q := 53) (j := (3 : Int32)) (i := 3) (vs' := [(.int r_1), (.int r_3), (.int r_5), (.int r_7)]) X12 hx hZ e12 A12 (by decide) (by decide) (show (3 : Nat) < 4 by decide) (own_i2c p7_0) rfl (hb hby at_52) rfl ?_
  intro T13 h13 X13 e13 W13 A13
  have N13 := Fr.snoc X13 N12 fr8
  have O15 : Old Z n0 h13 := (((((O9.ext E8).wr W10 fr8).wr W11 fr8).wr W12 fr8).wr W13 fr8)
  refine go_new (q := 56) X13 hx hZ hown (w6 hw) (w7 hw) (w8 hw) e13 (hb hby at_53) (by decide) (by decide) rfl ?_
  intro T14 h14 ob14 g14 X14 e14 E14 A14 D14
  have fr14 : n0 ≤ ob14 := own_ge O15 g14
  have sn14 : h0.size ≤ ob14 := g14 ▸ (Nat.le_trans (Nat.le_trans (Nat.le_trans (Nat.le_trans (Nat.le_trans (Nat.le_trans (Nat.le_trans (Nat.le_trans (Nat.le_trans (Nat.le_refl _) K1.1) K3.1) K5.1) K7.1) E8.1) (Nat.le_of_eq W10.size.symm)) (Nat.le_of_eq W11.size.symm)) (Nat.le_of_eq W12.size.symm)) (Nat.le_of_eq W13.size.symm))
  have ne_ob8_ob14 : ob8 ≠ ob14 := own_lt g14 A13.lt
  have f16 : Fld Z h14 ob14 "java/lang/String" "coder" "B" (.int (0 : Int32)) := D14 (Or.inr (w32 hw)) (ty := .byte) (by decide)
  have f17 : Fld Z h14 ob14 "java/lang/String" "value" "[B" .null := D14 (Or.inr (w34 hw)) (ty := (.array .byte)) (by decide)
  refine go_dup (q := 57) X14 hx (hb hby at_56) rfl rfl ?_
  refine go_aload (q := 59) X14 hx (hb hby at_57) (v := (.ref ob8)) rfl rfl rfl ?_
  have f18 : Arv Z h14 ob8 k8 .char (4 : Int32) [(.int r_1), (.int r_3), (.int r_5), (.int r_7)] (.int (0 : Int32)) := (A13.ext E14)
  have O19 : Old Z n0 h14 := (O15.ext E14)
  refine go_special (q := 62) X14 hx hZ hown (y := (⟨"java/lang/String", "<init>", "([C)V"⟩ : MethodName)) (a := ob14) rfl (w9 hw) (w10 hw) (w8 hw) (w11 hw) (by decide) e14 (b2 l Z a0 hw ob14 ob8 .null (.int (0 : Int32)) k8 (.int (0 : Int32)) zc r_1 r_3 r_5 r_7 h14 n0 O19 A14 f17 f16 fr14 f18 S_0 hr_1 S_3 S_4 S_5 p1_0 p3_0 p5_0 p7_0) (argsL := [(.ref ob8)]) (rest := [(.ref ob14)]) rfl (lenOf pd_14 rfl) rfl (by rw [hml]; rfl) (W := 1) (Nat.le_of_eq rfl) (hb hby at_59) (by decide) (by decide) (by decide) (by decide) rfl ?_
  rintro T20 h20 _ L20 X20 e20 ⟨rfl, M20, K20, p20_0, p20_1⟩
  have N20 := Fr.app N13 M20
  refine go_astore (q := 64) X20 hx (hb hby at_62) rfl (l' := #[.val (.int p0), .val (.int p1), .val (.int p2), .val (.int p3), .val (.int p4), .val (.int r_1), .val (.int r_3), .val (.int r_5), .val (.int r_7), .val (.ref ob8), .val (.ref ob14), .unset, .unset, .unset]) rfl rfl ?_
  refine go_iload (q := 66) X20 hx (hb hby at_64) (v := p4) rfl rfl ?_
  refine go_bipush (q := 68) X20 hx (hb hby at_66) (v := (7 : Int32)) (by decide) rfl ?_
  refine go_iand (q := 69) X20 hx (hb hby at_68) (v := (p4 &&& (7 : Int32))) rfl rfl ?_
  refine go_iconst (q := 70) X20 hx (hb hby at_69) (v := (5 : Int32)) (by decide) rfl ?_
  refine go_irem (q := 71) X20 hx (hb hby at_70) (by decide) rfl ?_
  rcases own_f5 p4 with c71 | c71 | c71 | c71 | c71
  · rw [c71]
    refine go_istore (q := 73) X20 hx (hb hby at_71) (l' := #[.val (.int p0), .val (.int p1), .val (.int p2), .val (.int p3), .val (.int p4), .val (.int r_1), .val (.int r_3), .val (.int r_5), .val (.int r_7), .val (.ref ob8), .val (.ref ob14), .val (.int (0 : Int32)), .unset, .unset]) rfl rfl ?_
    refine go_iload (q := 75) X20 hx (hb hby at_73) (v := p4) rfl rfl ?_
    refine go_iconst (q := 76) X20 hx (hb hby at_75) (v := (3 : Int32)) (by decide) rfl ?_
    refine go_iushr (q := 77) X20 hx (hb hby at_76) (v := (XT.ushr p4 (3 : Int32))) rfl rfl ?_
    refine go_bipush (q := 79) X20 hx (hb hby at_77) (v := (7 : Int32)) (by decide) rfl ?_
    refine go_iand (q := 80) X20 hx (hb hby at_79) (v := ((XT.ushr p4 (3 : Int32)) &&& (7 : Int32))) rfl rfl ?_
    refine go_iconst (q := 81) X20 hx (hb hby at_80) (v := (5 : Int32)) (by decide) rfl ?_
    refine go_irem (q := 82) X20 hx (hb hby at_81) (by decide) rfl ?_
    rcases own_t5 p4 with c82 | c82 | c82 | c82 | c82
    · rw [c82]
      refine go_istore (q := 84) X20 hx (hb hby at_82) (l' := #[.val (.int p0), .val (.int p1), .val (.int p2), .val (.int p3), .val (.int p4), .val (.int r_1), .val (.int r_3), .val (.int r_5), .val (.int r_7), .val (.ref ob8), .val (.ref ob14), .val (.int (0 : Int32)), .val (.int (0 : Int32)), .unset]) rfl rfl ?_
      refine go_iload (q := 86) X20 hx (hb hby at_84) (v := (0 : Int32)) rfl rfl ?_
      refine go_iload (q := 88) X20 hx (hb hby at_86) (v := (0 : Int32)) rfl rfl ?_
      refine go_icmpY (q := 147) X20 hx (hb hby at_88) (XT.ii_ge_t (by decide)) (by decide) (by decide) ?_
      refine go_iconst (q := 148) X20 hx (hb hby at_147) (v := (0 : Int32)) (by decide) rfl ?_
      refine go_istore (q := 150) X20 hx (hb hby at_148) (l' := #[.val (.int p0), .val (.int p1), .val (.int p2), .val (.int p3), .val (.int p4), .val (.int r_1), .val (.int r_3), .val (.int r_5), .val (.int r_7), .val (.ref ob8), .val (.ref ob14), .val (.int (0 : Int32)), .val (.int (0 : Int32)), .val (.int (0 : Int32))]) rfl rfl ?_
      refine go_aload (q := 152) X20 hx (hb hby at_150) (v := (.ref ob14)) rfl rfl rfl ?_
      refine go_iload (q := 154) X20 hx (hb hby at_152) (v := (0 : Int32)) rfl rfl ?_
      refine go_iload (q := 156) X20 hx (hb hby at_154) (v := (0 : Int32)) rfl rfl ?_
      have O21 : Old Z n0 h20 := (O19.keep K20 (allS fr14 all0))
      refine go_static (q := 159) X20 hx hZ hown (y := (⟨"com/example/harborspread/harborspread/Decimals", "isDigits", "(Ljava/lang/String;II)Z"⟩ : MethodName)) (w35 hw) (w36 hw) (w37 hw) (w38 hw) (by decide) e20 (b8 l Z a0 hw ob14 (0 : Int32) (0 : Int32) h20 n0 O21 (by decide)) (argsL := [(.ref ob14), (.int (0 : Int32)), (.int (0 : Int32))]) (rest := []) rfl (lenOf pd_15 rfl) rfl (by rw [hml]; rfl) (W := 0) (Nat.le_of_eq rfl) (hb hby at_156) (by decide) (by decide) (by decide) (by decide) rfl ?_
      rintro T22 h22 _ L22 X22 e22 ⟨rfl, M22, K22⟩
      have N22 := Fr.app N20 M22
      refine go_iload (q := 161) X22 hx (hb hby at_159) (v := (0 : Int32)) rfl rfl ?_
      refine go_icmpN (q := 164) X22 hx (hb hby at_161) (XT.ii_ne_f (by decide)) rfl ?_
      refine go_iconst (q := 165) X22 hx (hb hby at_164) (v := (1 : Int32)) (by decide) rfl ?_
      refine go_goto (q := 169) X22 hx (hb hby at_165) (by decide) (by decide) ?_
      refine go_retI X22 hx hret hlk e22 (hb hby at_169) (by simp) (by decide) (by decide) (by decide) ?_
      exact ⟨rfl, N22, (((((((((((((Keep.refl h0 []).trans K1 all0).trans K3 all0).trans K5 all0).trans K7 all0).ext E8).wr W10 (Or.inr sn8)).wr W11 (Or.inr sn8)).wr W12 (Or.inr sn8)).wr W13 (Or.inr sn8)).ext E14).trans K20 (allS (P := fun x => x ∈ [] ∨ h0.size ≤ x) (Or.inr sn14) all0)).trans K22 all0)⟩
    · rw [c82]
      refine go_istore (q := 84) X20 hx (hb hby at_82) (l' := #[.val (.int p0), .val (.int p1), .val (.int p2), .val (.int p3), .val (.int p4), .val (.int r_1), .val (.int r_3), .val (.int r_5), .val (.int r_7), .val (.ref ob8), .val (.ref ob14), .val (.int (0 : Int32)), .val (.int (1 : Int32)), .unset]) rfl rfl ?_
      refine go_iload (q := 86) X20 hx (hb hby at_84) (v := (0 : Int32)) rfl rfl ?_
      refine go_iload (q := 88) X20 hx (hb hby at_86) (v := (1 : Int32)) rfl rfl ?_
      refine go_icmpN (q := 91) X20 hx (hb hby at_88) (XT.ii_ge_f (by decide)) rfl ?_
      refine go_iload (q := 93) X20 hx (hb hby at_91) (v := r_1) rfl rfl ?_
      refine go_iconst (q := 94) X20 hx (hb hby at_93) (v := (0 : Int32)) (by decide) rfl ?_
      refine go_iload (q := 96) X20 hx (hb hby at_94) (v := (0 : Int32)) rfl rfl ?_
      refine go_iload (q := 98) X20 hx (hb hby at_96) (v := (1 : Int32)) rfl rfl ?_
      have O23 : Old Z n0 h20 := (O19.keep K20 (allS fr14 all0))
      refine go_static (q := 101) X20 hx hZ hown (y := (⟨"com/example/harborspread/harborspread/DecimalsIsDigitsPinLaw", "fine", "(CIII)Z"⟩ : MethodName)) (w58 hw) (w59 hw) (w2 hw) (w60 hw) (by decide) e20 (b14_2 l Z a0 hw r_1 (0 : Int32) (0 : Int32) (1 : Int32) h20 n0 O23 (by decide) (by decide)) (argsL := [(.int r_1), (.int (0 : Int32)), (.int (0 : Int32)), (.int (1 : Int32))]) (rest := []) rfl (lenOf pd_16 rfl) rfl (by rw [hml]; rfl) (W := 0) (Nat.le_of_eq rfl) (hb hby at_98) (by decide) (by decide) (by decide) (by decide) rfl ?_
      have f25 : Arv Z h20 ob8 k8 .char (4 : Int32) [(.int r_1), (.int r_3), (.int r_5), (.int r_7)] (.int (0 : Int32)) := (f18.keep K20 (ninS ne_ob8_ob14 nin0))
      rintro T24 h24 _ L24 X24 e24 ⟨r_24, rfl, M24, K24, p24_0⟩
      have N24 := Fr.app N20 M24
      rcases p24_0 with ⟨rfl, d26⟩ | ⟨rfl, d26⟩
      · refine go_ifN (q := 104) X24 hx (hb hby at_101) (XT.i0_eq_f (by decide)) rfl ?_
        refine go_iload (q := 106) X24 hx (hb hby at_104) (v := r_3) rfl rfl ?_
        refine go_iconst (q := 107) X24 hx (hb hby at_106) (v := (1 : Int32)) (by decide) rfl ?_
        refine go_iload (q := 109) X24 hx (hb hby at_107) (v := (0 : Int32)) rfl rfl ?_
        refine go_iload (q := 111) X24 hx (hb hby at_109) (v := (1 : Int32)) rfl rfl ?_
        have O27 : Old Z n0 h24 := (O23.keep K24 all0)
        refine go_static (q := 114) X24 hx hZ hown (y := (⟨"com/example/harborspread/harborspread/DecimalsIsDigitsPinLaw", "fine", "(CIII)Z"⟩ : MethodName)) (w58 hw) (w59 hw) (w2 hw) (w60 hw) (by decide) e24 (b14_1 l Z a0 hw r_3 (1 : Int32) (0 : Int32) (1 : Int32) h24 n0 O27 (by decide) (by decide)) (argsL := [(.int r_3), (.int (1 : Int32)), (.int (0 : Int32)), (.int (1 : Int32))]) (rest := []) rfl (lenOf pd_16 rfl) rfl (by rw [hml]; rfl) (W := 0) (Nat.le_of_eq rfl) (hb hby at_111) (by decide) (by decide) (by decide) (by decide) rfl ?_
        rintro T28 h28 _ L28 X28 e28 ⟨rfl, M28, K28⟩
        have N28 := Fr.app N24 M28
        refine go_ifN (q := 117) X28 hx (hb hby at_114) (XT.i0_eq_f (by decide)) rfl ?_
        refine go_iload (q := 119) X28 hx (hb hby at_117) (v := r_5) rfl rfl ?_
        refine go_iconst (q := 120) X28 hx (hb hby at_119) (v := (2 : Int32)) (by decide) rfl ?_
        refine go_iload (q := 122) X28 hx (hb hby at_120) (v := (0 : Int32)) rfl rfl ?_
        refine go_iload (q := 124) X28 hx (hb hby at_122) (v := (1 : Int32)) rfl rfl ?_
        have O29 : Old Z n0 h28 := (O27.keep K28 all0)
        refine go_static (q := 127) X28 hx hZ hown (y := (⟨"com/example/harborspread/harborspread/DecimalsIsDigitsPinLaw", "fine", "(CIII)Z"⟩ : MethodName)) (w58 hw) (w59 hw) (w2 hw) (w60 hw) (by decide) e28 (b14_1 l Z a0 hw r_5 (2 : Int32) (0 : Int32) (1 : Int32) h28 n0 O29 (by decide) (by decide)) (argsL := [(.int r_5), (.int (2 : Int32)), (.int (0 : Int32)), (.int (1 : Int32))]) (rest := []) rfl (lenOf pd_16 rfl) rfl (by rw [hml]; rfl) (W := 0) (Nat.le_of_eq rfl) (hb hby at_124) (by decide) (by decide) (by decide) (by decide) rfl ?_
        rintro T30 h30 _ L30 X30 e30 ⟨rfl, M30, K30⟩
        have N30 := Fr.app N28 M30
        refine go_ifN (q := 130) X30 hx (hb hby at_127) (XT.i0_eq_f (by decide)) rfl ?_
        refine go_iload (q := 132) X30 hx (hb hby at_130) (v := r_7) rfl rfl ?_
        refine go_iconst (q := 133) X30 hx (hb hby at_132) (v := (3 : Int32)) (by decide) rfl ?_
        refine go_iload (q := 135) X30 hx (hb hby at_133) (v := (0 : Int32)) rfl rfl ?_
        refine go_iload (q := 137) X30 hx (hb hby at_135) (v := (1 : Int32)) rfl rfl ?_
        have O31 : Old Z n0 h30 := (O29.keep K30 all0)
        refine go_static (q := 140) X30 hx hZ hown (y := (⟨"com/example/harborspread/harborspread/DecimalsIsDigitsPinLaw", "fine", "(CIII)Z"⟩ : MethodName)) (w58 hw) (w59 hw) (w2 hw) (w60 hw) (by decide) e30 (b14_1 l Z a0 hw r_7 (3 : Int32) (0 : Int32) (1 : Int32) h30 n0 O31 (by decide) (by decide)) (argsL := [(.int r_7), (.int (3 : Int32)), (.int (0 : Int32)), (.int (1 : Int32))]) (rest := []) rfl (lenOf pd_16 rfl) rfl (by rw [hml]; rfl) (W := 0) (Nat.le_of_eq rfl) (hb hby at_137) (by decide) (by decide) (by decide) (by decide) rfl ?_
        rintro T32 h32 _ L32 X32 e32 ⟨rfl, M32, K32⟩
        have N32 := Fr.app N30 M32
        refine go_ifN (q := 143) X32 hx (hb hby at_140) (XT.i0_eq_f (by decide)) rfl ?_
        refine go_iconst (q := 144) X32 hx (hb hby at_143) (v := (1 : Int32)) (by decide) rfl ?_
        refine go_goto (q := 148) X32 hx (hb hby at_144) (by decide) (by decide) ?_
        refine go_istore (q := 150) X32 hx (hb hby at_148) (l' := #[.val (.int p0), .val (.int p1), .val (.int p2), .val (.int p3), .val (.int p4), .val (.int r_1), .val (.int r_3), .val (.int r_5), .val (.int r_7), .val (.ref ob8), .val (.ref ob14), .val (.int (0 : Int32)), .val (.int (1 : Int32)), .val (.int (1 : Int32))]) rfl rfl ?_
        refine go_aload (q := 152) X32 hx (hb hby at_150) (v := (.ref ob14)) rfl rfl rfl ?_
        refine go_iload (q := 154) X32 hx (hb hby at_152) (v := (0 : Int32)) rfl rfl ?_
        refine go_iload (q := 156) X32 hx (hb hby at_154) (v := (1 : Int32)) rfl rfl ?_
        have f33 : Str4 Z h32 ob14 r_1 r_3 r_5 r_7 := (Str4.keep (Str4.keep (Str4.keep (Str4.keep p20_0 K24) K28) K30) K32)
        have f34 : Exa Z h32 ob14 "java/lang/String" := ((((p20_1.keep K24).keep K28).keep K30).keep K32)
        have O35 : Old Z n0 h32 := (O31.keep K32 all0)
        refine go_static (q := 159) X32 hx hZ hown (y := (⟨"com/example/harborspread/harborspread/Decimals", "isDigits", "(Ljava/lang/String;II)Z"⟩ : MethodName)) (w35 hw) (w36 hw) (w37 hw) (w38 hw) (by decide) e32 (b8_1 l Z a0 hw ob14 zc sf rsf r_1 r_3 r_5 r_7 h32 n0 O35 f33 S_0 hr_1 S_2 S_3 S_4 S_5 p1_0 p3_0 p5_0 p7_0 f34) (argsL := [(.ref ob14), (.int (0 : Int32)), (.int (1 : Int32))]) (rest := []) rfl (lenOf pd_15 rfl) rfl (by rw [hml]; rfl) (W := 0) (Nat.le_of_eq rfl) (hb hby at_156) (by decide) (by decide) (by decide) (by decide) rfl ?_
        have f37 : Arv Z h32 ob8 k8 .char (4 : Int32) [(.int r_1), (.int r_3), (.int r_5), (.int r_7)] (.int (0 : Int32)) := ((((f25.keep K24 nin0).keep K28 nin0).keep K30 nin0).keep K32 nin0)
        rintro T36 h36 _ L36 X36 e36 ⟨r_36, rfl, M36, K36, p36_0⟩
        have N36 := Fr.app N32 M36
        refine go_iload (q := 161) X36 hx (hb hby at_159) (v := (1 : Int32)) rfl rfl ?_
        refine go_icmpN (q := 164) X36 hx (hb hby at_161) (XT.ii_ne_f (by rcases p36_0 with ⟨q, q2⟩ | ⟨q, q2⟩ <;> first | exact q | (exact absurd d26 q2))) rfl ?_
        refine go_iconst (q := 165) X36 hx (hb hby at_164) (v := (1 : Int32)) (by decide) rfl ?_
        refine go_goto (q := 169) X36 hx (hb hby at_165) (by decide) (by decide) ?_
        refine go_retI X36 hx hret hlk e36 (hb hby at_169) (by simp) (by decide) (by decide) (by decide) ?_
        exact ⟨(by first | rfl | simp [d26] | simp_all), N36, (((((((((((((((((Keep.refl h0 []).trans K1 all0).trans K3 all0).trans K5 all0).trans K7 all0).ext E8).wr W10 (Or.inr sn8)).wr W11 (Or.inr sn8)).wr W12 (Or.inr sn8)).wr W13 (Or.inr sn8)).ext E14).trans K20 (allS (P := fun x => x ∈ [] ∨ h0.size ≤ x) (Or.inr sn14) all0)).trans K24 all0).trans K28 all0).trans K30 all0).trans K32 all0).trans K36 all0)⟩
      · refine go_ifY (q := 147) X24 hx (hb hby at_101) (XT.i0_eq_t (by decide)) (by decide) (by decide) ?_
        refine go_iconst (q := 148) X24 hx (hb hby at_147) (v := (0 : Int32)) (by decide) rfl ?_
        refine go_istore (q := 150) X24 hx (hb hby at_148) (l' := #[.val (.int p0), .val (.int p1), .val (.int p2), .val (.int p3), .val (.int p4), .val (.int r_1), .val (.int r_3), .val (.int r_5), .val (.int r_7), .val (.ref ob8), .val (.ref ob14), .val (.int (0 : Int32)), .val (.int (1 : Int32)), .val (.int (0 : Int32))]) rfl rfl ?_
        refine go_aload (q := 152) X24 hx (hb hby at_150) (v := (.ref ob14)) rfl rfl rfl ?_
        refine go_iload (q := 154) X24 hx (hb hby at_152) (v := (0 : Int32)) rfl rfl ?_
        refine go_iload (q := 156) X24 hx (hb hby at_154) (v := (1 : Int32)) rfl rfl ?_
        have f38 : Str4 Z h24 ob14 r_1 r_3 r_5 r_7 := (Str4.keep p20_0 K24)
        have f39 : Exa Z h24 ob14 "java/lang/String" := (p20_1.keep K24)
        have O40 : Old Z n0 h24 := (O23.keep K24 all0)
        refine go_static (q := 159) X24 hx hZ hown (y := (⟨"com/example/harborspread/harborspread/Decimals", "isDigits", "(Ljava/lang/String;II)Z"⟩ : MethodName)) (w35 hw) (w36 hw) (w37 hw) (w38 hw) (by decide) e24 (b8_1 l Z a0 hw ob14 zc sf rsf r_1 r_3 r_5 r_7 h24 n0 O40 f38 S_0 hr_1 S_2 S_3 S_4 S_5 p1_0 p3_0 p5_0 p7_0 f39) (argsL := [(.ref ob14), (.int (0 : Int32)), (.int (1 : Int32))]) (rest := []) rfl (lenOf pd_15 rfl) rfl (by rw [hml]; rfl) (W := 0) (Nat.le_of_eq rfl) (hb hby at_156) (by decide) (by decide) (by decide) (by decide) rfl ?_
        have f42 : Arv Z h24 ob8 k8 .char (4 : Int32) [(.int r_1), (.int r_3), (.int r_5), (.int r_7)] (.int (0 : Int32)) := (f25.keep K24 nin0)
        rintro T41 h41 _ L41 X41 e41 ⟨r_41, rfl, M41, K41, p41_0⟩
        have N41 := Fr.app N24 M41
        refine go_iload (q := 161) X41 hx (hb hby at_159) (v := (0 : Int32)) rfl rfl ?_
        refine go_icmpN (q := 164) X41 hx (hb hby at_161) (XT.ii_ne_f (by rcases p41_0 with ⟨q, q2⟩ | ⟨q, q2⟩ <;> first | exact q | (exact absurd (q2) d26))) rfl ?_
        refine go_iconst (q := 165) X41 hx (hb hby at_164) (v := (1 : Int32)) (by decide) rfl ?_
        refine go_goto (q := 169) X41 hx (hb hby at_165) (by decide) (by decide) ?_
        refine go_retI X41 hx hret hlk e41 (hb hby at_169) (by simp) (by decide) (by decide) (by decide) ?_
        exact ⟨(by first | rfl | simp [d26] | simp_all), N41, ((((((((((((((Keep.refl h0 []).trans K1 all0).trans K3 all0).trans K5 all0).trans K7 all0).ext E8).wr W10 (Or.inr sn8)).wr W11 (Or.inr sn8)).wr W12 (Or.inr sn8)).wr W13 (Or.inr sn8)).ext E14).trans K20 (allS (P := fun x => x ∈ [] ∨ h0.size ≤ x) (Or.inr sn14) all0)).trans K24 all0).trans K41 all0)⟩
    · rw [c82]
      refine go_istore (q := 84) X20 hx (hb hby at_82) (l' := #[.val (.int p0), .val (.int p1), .val (.int p2), .val (.int p3), .val (.int p4), .val (.int r_1), .val (.int r_3), .val (.int r_5), .val (.int r_7), .val (.ref ob8), .val (.ref ob14), .val (.int (0 : Int32)), .val (.int (2 : Int32)), .unset]) rfl rfl ?_
      refine go_iload (q := 86) X20 hx (hb hby at_84) (v := (0 : Int32)) rfl rfl ?_
      refine go_iload (q := 88) X20 hx (hb hby at_86) (v := (2 : Int32)) rfl rfl ?_
      refine go_icmpN (q := 91) X20 hx (hb hby at_88) (XT.ii_ge_f (by decide)) rfl ?_
      refine go_iload (q := 93) X20 hx (hb hby at_91) (v := r_1) rfl rfl ?_
      refine go_iconst (q := 94) X20 hx (hb hby at_93) (v := (0 : Int32)) (by decide) rfl ?_
      refine go_iload (q := 96) X20 hx (hb hby at_94) (v := (0 : Int32)) rfl rfl ?_
      refine go_iload (q := 98) X20 hx (hb hby at_96) (v := (2 : Int32)) rfl rfl ?_
      have O43 : Old Z n0 h20 := (O19.keep K20 (allS fr14 all0))
      refine go_static (q := 101) X20 hx hZ hown (y := (⟨"com/example/harborspread/harborspread/DecimalsIsDigitsPinLaw", "fine", "(CIII)Z"⟩ : MethodName)) (w58 hw) (w59 hw) (w2 hw) (w60 hw) (by decide) e20 (b14_2 l Z a0 hw r_1 (0 : Int32) (0 : Int32) (2 : Int32) h20 n0 O43 (by decide) (by decide)) (argsL := [(.int r_1), (.int (0 : Int32)), (.int (0 : Int32)), (.int (2 : Int32))]) (rest := []) rfl (lenOf pd_16 rfl) rfl (by rw [hml]; rfl) (W := 0) (Nat.le_of_eq rfl) (hb hby at_98) (by decide) (by decide) (by decide) (by decide) rfl ?_
      have f45 : Arv Z h20 ob8 k8 .char (4 : Int32) [(.int r_1), (.int r_3), (.int r_5), (.int r_7)] (.int (0 : Int32)) := (f18.keep K20 (ninS ne_ob8_ob14 nin0))
      rintro T44 h44 _ L44 X44 e44 ⟨r_44, rfl, M44, K44, p44_0⟩
      have N44 := Fr.app N20 M44
      rcases p44_0 with ⟨rfl, d46⟩ | ⟨rfl, d46⟩
      · refine go_ifN (q := 104) X44 hx (hb hby at_101) (XT.i0_eq_f (by decide)) rfl ?_
        refine go_iload (q := 106) X44 hx (hb hby at_104) (v := r_3) rfl rfl ?_
        refine go_iconst (q := 107) X44 hx (hb hby at_106) (v := (1 : Int32)) (by decide) rfl ?_
        refine go_iload (q := 109) X44 hx (hb hby at_107) (v := (0 : Int32)) rfl rfl ?_
        refine go_iload (q := 111) X44 hx (hb hby at_109) (v := (2 : Int32)) rfl rfl ?_
        have O47 : Old Z n0 h44 := (O43.keep K44 all0)
        refine go_static (q := 114) X44 hx hZ hown (y := (⟨"com/example/harborspread/harborspread/DecimalsIsDigitsPinLaw", "fine", "(CIII)Z"⟩ : MethodName)) (w58 hw) (w59 hw) (w2 hw) (w60 hw) (by decide) e44 (b14_2 l Z a0 hw r_3 (1 : Int32) (0 : Int32) (2 : Int32) h44 n0 O47 (by decide) (by decide)) (argsL := [(.int r_3), (.int (1 : Int32)), (.int (0 : Int32)), (.int (2 : Int32))]) (rest := []) rfl (lenOf pd_16 rfl) rfl (by rw [hml]; rfl) (W := 0) (Nat.le_of_eq rfl) (hb hby at_111) (by decide) (by decide) (by decide) (by decide) rfl ?_
        have f49 : Arv Z h44 ob8 k8 .char (4 : Int32) [(.int r_1), (.int r_3), (.int r_5), (.int r_7)] (.int (0 : Int32)) := (f45.keep K44 nin0)
        have f50 : Exa Z h44 ob14 "java/lang/String" := (p20_1.keep K44)
        rintro T48 h48 _ L48 X48 e48 ⟨r_48, rfl, M48, K48, p48_0⟩
        have N48 := Fr.app N44 M48
        rcases p48_0 with ⟨rfl, d51⟩ | ⟨rfl, d51⟩
        · refine go_ifN (q := 117) X48 hx (hb hby at_114) (XT.i0_eq_f (by decide)) rfl ?_
          refine go_iload (q := 119) X48 hx (hb hby at_117) (v := r_5) rfl rfl ?_
          refine go_iconst (q := 120) X48 hx (hb hby at_119) (v := (2 : Int32)) (by decide) rfl ?_
          refine go_iload (q := 122) X48 hx (hb hby at_120) (v := (0 : Int32)) rfl rfl ?_
          refine go_iload (q := 124) X48 hx (hb hby at_122) (v := (2 : Int32)) rfl rfl ?_
          have O52 : Old Z n0 h48 := (O47.keep K48 all0)
          refine go_static (q := 127) X48 hx hZ hown (y := (⟨"com/example/harborspread/harborspread/DecimalsIsDigitsPinLaw", "fine", "(CIII)Z"⟩ : MethodName)) (w58 hw) (w59 hw) (w2 hw) (w60 hw) (by decide) e48 (b14_1 l Z a0 hw r_5 (2 : Int32) (0 : Int32) (2 : Int32) h48 n0 O52 (by decide) (by decide)) (argsL := [(.int r_5), (.int (2 : Int32)), (.int (0 : Int32)), (.int (2 : Int32))]) (rest := []) rfl (lenOf pd_16 rfl) rfl (by rw [hml]; rfl) (W := 0) (Nat.le_of_eq rfl) (hb hby at_124) (by decide) (by decide) (by decide) (by decide) rfl ?_
          rintro T53 h53 _ L53 X53 e53 ⟨rfl, M53, K53⟩
          have N53 := Fr.app N48 M53
          refine go_ifN (q := 130) X53 hx (hb hby at_127) (XT.i0_eq_f (by decide)) rfl ?_
          refine go_iload (q := 132) X53 hx (hb hby at_130) (v := r_7) rfl rfl ?_
          refine go_iconst (q := 133) X53 hx (hb hby at_132) (v := (3 : Int32)) (by decide) rfl ?_
          refine go_iload (q := 135) X53 hx (hb hby at_133) (v := (0 : Int32)) rfl rfl ?_
          refine go_iload (q := 137) X53 hx (hb hby at_135) (v := (2 : Int32)) rfl rfl ?_
          have O54 : Old Z n0 h53 := (O52.keep K53 all0)
          refine go_static (q := 140) X53 hx hZ hown (y := (⟨"com/example/harborspread/harborspread/DecimalsIsDigitsPinLaw", "fine", "(CIII)Z"⟩ : MethodName)) (w58 hw) (w59 hw) (w2 hw) (w60 hw) (by decide) e53 (b14_1 l Z a0 hw r_7 (3 : Int32) (0 : Int32) (2 : Int32) h53 n0 O54 (by decide) (by decide)) (argsL := [(.int r_7), (.int (3 : Int32)), (.int (0 : Int32)), (.int (2 : Int32))]) (rest := []) rfl (lenOf pd_16 rfl) rfl (by rw [hml]; rfl) (W := 0) (Nat.le_of_eq rfl) (hb hby at_137) (by decide) (by decide) (by decide) (by decide) rfl ?_
          rintro T55 h55 _ L55 X55 e55 ⟨rfl, M55, K55⟩
          have N55 := Fr.app N53 M55
          refine go_ifN (q := 143) X55 hx (hb hby at_140) (XT.i0_eq_f (by decide)) rfl ?_
          refine go_iconst (q := 144) X55 hx (hb hby at_143) (v := (1 : Int32)) (by decide) rfl ?_
          refine go_goto (q := 148) X55 hx (hb hby at_144) (by decide) (by decide) ?_
          refine go_istore (q := 150) X55 hx (hb hby at_148) (l' := #[.val (.int p0), .val (.int p1), .val (.int p2), .val (.int p3), .val (.int p4), .val (.int r_1), .val (.int r_3), .val (.int r_5), .val (.int r_7), .val (.ref ob8), .val (.ref ob14), .val (.int (0 : Int32)), .val (.int (2 : Int32)), .val (.int (1 : Int32))]) rfl rfl ?_
          refine go_aload (q := 152) X55 hx (hb hby at_150) (v := (.ref ob14)) rfl rfl rfl ?_
          refine go_iload (q := 154) X55 hx (hb hby at_152) (v := (0 : Int32)) rfl rfl ?_
          refine go_iload (q := 156) X55 hx (hb hby at_154) (v := (2 : Int32)) rfl rfl ?_
          have f56 : Str4 Z h55 ob14 r_1 r_3 r_5 r_7 := (Str4.keep (Str4.keep (Str4.keep (Str4.keep p20_0 K44) K48) K53) K55)
          have f57 : Exa Z h55 ob14 "java/lang/String" := (((f50.keep K48).keep K53).keep K55)
          have O58 : Old Z n0 h55 := (O54.keep K55 all0)
          refine go_static (q := 159) X55 hx hZ hown (y := (⟨"com/example/harborspread/harborspread/Decimals", "isDigits", "(Ljava/lang/String;II)Z"⟩ : MethodName)) (w35 hw) (w36 hw) (w37 hw) (w38 hw) (by decide) e55 (b8_2 l Z a0 hw ob14 zc sf rsf r_1 r_3 r_5 r_7 h55 n0 O58 f56 S_0 hr_1 S_2 S_3 S_4 S_5 p1_0 p3_0 p5_0 p7_0 f57) (argsL := [(.ref ob14), (.int (0 : Int32)), (.int (2 : Int32))]) (rest := []) rfl (lenOf pd_15 rfl) rfl (by rw [hml]; rfl) (W := 0) (Nat.le_of_eq rfl) (hb hby at_156) (by decide) (by decide) (by decide) (by decide) rfl ?_
          have f60 : Arv Z h55 ob8 k8 .char (4 : Int32) [(.int r_1), (.int r_3), (.int r_5), (.int r_7)] (.int (0 : Int32)) := (((f49.keep K48 nin0).keep K53 nin0).keep K55 nin0)
          rintro T59 h59 _ L59 X59 e59 ⟨r_59, rfl, M59, K59, p59_0⟩
          have N59 := Fr.app N55 M59
          refine go_iload (q := 161) X59 hx (hb hby at_159) (v := (1 : Int32)) rfl rfl ?_
          refine go_icmpN (q := 164) X59 hx (hb hby at_161) (XT.ii_ne_f (by rcases p59_0 with ⟨q, q2⟩ | ⟨q, q2⟩ <;> first | exact q | (exact absurd ⟨d46, d51⟩ q2))) rfl ?_
          refine go_iconst (q := 165) X59 hx (hb hby at_164) (v := (1 : Int32)) (by decide) rfl ?_
          refine go_goto (q := 169) X59 hx (hb hby at_165) (by decide) (by decide) ?_
          refine go_retI X59 hx hret hlk e59 (hb hby at_169) (by simp) (by decide) (by decide) (by decide) ?_
          exact ⟨(by first | rfl | simp [d46, d51] | simp_all), N59, (((((((((((((((((Keep.refl h0 []).trans K1 all0).trans K3 all0).trans K5 all0).trans K7 all0).ext E8).wr W10 (Or.inr sn8)).wr W11 (Or.inr sn8)).wr W12 (Or.inr sn8)).wr W13 (Or.inr sn8)).ext E14).trans K20 (allS (P := fun x => x ∈ [] ∨ h0.size ≤ x) (Or.inr sn14) all0)).trans K44 all0).trans K48 all0).trans K53 all0).trans K55 all0).trans K59 all0)⟩
        · refine go_ifY (q := 147) X48 hx (hb hby at_114) (XT.i0_eq_t (by decide)) (by decide) (by decide) ?_
          refine go_iconst (q := 148) X48 hx (hb hby at_147) (v := (0 : Int32)) (by decide) rfl ?_
          refine go_istore (q := 150) X48 hx (hb hby at_148) (l' := #[.val (.int p0), .val (.int p1), .val (.int p2), .val (.int p3), .val (.int p4), .val (.int r_1), .val (.int r_3), .val (.int r_5), .val (.int r_7), .val (.ref ob8), .val (.ref ob14), .val (.int (0 : Int32)), .val (.int (2 : Int32)), .val (.int (0 : Int32))]) rfl rfl ?_
          refine go_aload (q := 152) X48 hx (hb hby at_150) (v := (.ref ob14)) rfl rfl rfl ?_
          refine go_iload (q := 154) X48 hx (hb hby at_152) (v := (0 : Int32)) rfl rfl ?_
          refine go_iload (q := 156) X48 hx (hb hby at_154) (v := (2 : Int32)) rfl rfl ?_
          have f61 : Str4 Z h48 ob14 r_1 r_3 r_5 r_7 := (Str4.keep (Str4.keep p20_0 K44) K48)
          have f62 : Exa Z h48 ob14 "java/lang/String" := (f50.keep K48)
          have O63 : Old Z n0 h48 := (O47.keep K48 all0)
          refine go_static (q := 159) X48 hx hZ hown (y := (⟨"com/example/harborspread/harborspread/Decimals", "isDigits", "(Ljava/lang/String;II)Z"⟩ : MethodName)) (w35 hw) (w36 hw) (w37 hw) (w38 hw) (by decide) e48 (b8_2 l Z a0 hw ob14 zc sf rsf r_1 r_3 r_5 r_7 h48 n0 O63 f61 S_0 hr_1 S_2 S_3 S_4 S_5 p1_0 p3_0 p5_0 p7_0 f62) (argsL := [(.ref ob14), (.int (0 : Int32)), (.int (2 : Int32))]) (rest := []) rfl (lenOf pd_15 rfl) rfl (by rw [hml]; rfl) (W := 0) (Nat.le_of_eq rfl) (hb hby at_156) (by decide) (by decide) (by decide) (by decide) rfl ?_
          have f65 : Arv Z h48 ob8 k8 .char (4 : Int32) [(.int r_1), (.int r_3), (.int r_5), (.int r_7)] (.int (0 : Int32)) := (f49.keep K48 nin0)
          rintro T64 h64 _ L64 X64 e64 ⟨r_64, rfl, M64, K64, p64_0⟩
          have N64 := Fr.app N48 M64
          refine go_iload (q := 161) X64 hx (hb hby at_159) (v := (0 : Int32)) rfl rfl ?_
          refine go_icmpN (q := 164) X64 hx (hb hby at_161) (XT.ii_ne_f (by rcases p64_0 with ⟨q, q2⟩ | ⟨q, q2⟩ <;> first | exact q | (exact absurd (q2.2) d51))) rfl ?_
          refine go_iconst (q := 165) X64 hx (hb hby at_164) (v := (1 : Int32)) (by decide) rfl ?_
          refine go_goto (q := 169) X64 hx (hb hby at_165) (by decide) (by decide) ?_
          refine go_retI X64 hx hret hlk e64 (hb hby at_169) (by simp) (by decide) (by decide) (by decide) ?_
          exact ⟨(by first | rfl | simp [d46, d51] | simp_all), N64, (((((((((((((((Keep.refl h0 []).trans K1 all0).trans K3 all0).trans K5 all0).trans K7 all0).ext E8).wr W10 (Or.inr sn8)).wr W11 (Or.inr sn8)).wr W12 (Or.inr sn8)).wr W13 (Or.inr sn8)).ext E14).trans K20 (allS (P := fun x => x ∈ [] ∨ h0.size ≤ x) (Or.inr sn14) all0)).trans K44 all0).trans K48 all0).trans K64 all0)⟩
      · refine go_ifY (q := 147) X44 hx (hb hby at_101) (XT.i0_eq_t (by decide)) (by decide) (by decide) ?_
        refine go_iconst (q := 148) X44 hx (hb hby at_147) (v := (0 : Int32)) (by decide) rfl ?_
        refine go_istore (q := 150) X44 hx (hb hby at_148) (l' := #[.val (.int p0), .val (.int p1), .val (.int p2), .val (.int p3), .val (.int p4), .val (.int r_1), .val (.int r_3), .val (.int r_5), .val (.int r_7), .val (.ref ob8), .val (.ref ob14), .val (.int (0 : Int32)), .val (.int (2 : Int32)), .val (.int (0 : Int32))]) rfl rfl ?_
        refine go_aload (q := 152) X44 hx (hb hby at_150) (v := (.ref ob14)) rfl rfl rfl ?_
        refine go_iload (q := 154) X44 hx (hb hby at_152) (v := (0 : Int32)) rfl rfl ?_
        refine go_iload (q := 156) X44 hx (hb hby at_154) (v := (2 : Int32)) rfl rfl ?_
        have f66 : Str4 Z h44 ob14 r_1 r_3 r_5 r_7 := (Str4.keep p20_0 K44)
        have f67 : Exa Z h44 ob14 "java/lang/String" := (p20_1.keep K44)
        have O68 : Old Z n0 h44 := (O43.keep K44 all0)
        refine go_static (q := 159) X44 hx hZ hown (y := (⟨"com/example/harborspread/harborspread/Decimals", "isDigits", "(Ljava/lang/String;II)Z"⟩ : MethodName)) (w35 hw) (w36 hw) (w37 hw) (w38 hw) (by decide) e44 (b8_2 l Z a0 hw ob14 zc sf rsf r_1 r_3 r_5 r_7 h44 n0 O68 f66 S_0 hr_1 S_2 S_3 S_4 S_5 p1_0 p3_0 p5_0 p7_0 f67) (argsL := [(.ref ob14), (.int (0 : Int32)), (.int (2 : Int32))]) (rest := []) rfl (lenOf pd_15 rfl) rfl (by rw [hml]; rfl) (W := 0) (Nat.le_of_eq rfl) (hb hby at_156) (by decide) (by decide) (by decide) (by decide) rfl ?_
        have f70 : Arv Z h44 ob8 k8 .char (4 : Int32) [(.int r_1), (.int r_3), (.int r_5), (.int r_7)] (.int (0 : Int32)) := (f45.keep K44 nin0)
        rintro T69 h69 _ L69 X69 e69 ⟨r_69, rfl, M69, K69, p69_0⟩
        have N69 := Fr.app N44 M69
        refine go_iload (q := 161) X69 hx (hb hby at_159) (v := (0 : Int32)) rfl rfl ?_
        refine go_icmpN (q := 164) X69 hx (hb hby at_161) (XT.ii_ne_f (by rcases p69_0 with ⟨q, q2⟩ | ⟨q, q2⟩ <;> first | exact q | (exact absurd (q2.1) d46))) rfl ?_
        refine go_iconst (q := 165) X69 hx (hb hby at_164) (v := (1 : Int32)) (by decide) rfl ?_
        refine go_goto (q := 169) X69 hx (hb hby at_165) (by decide) (by decide) ?_
        refine go_retI X69 hx hret hlk e69 (hb hby at_169) (by simp) (by decide) (by decide) (by decide) ?_
        exact ⟨(by first | rfl | simp [d46] | simp_all), N69, ((((((((((((((Keep.refl h0 []).trans K1 all0).trans K3 all0).trans K5 all0).trans K7 all0).ext E8).wr W10 (Or.inr sn8)).wr W11 (Or.inr sn8)).wr W12 (Or.inr sn8)).wr W13 (Or.inr sn8)).ext E14).trans K20 (allS (P := fun x => x ∈ [] ∨ h0.size ≤ x) (Or.inr sn14) all0)).trans K44 all0).trans K69 all0)⟩
    · rw [c82]
      refine go_istore (q := 84) X20 hx (hb hby at_82) (l' := #[.val (.int p0), .val (.int p1), .val (.int p2), .val (.int p3), .val (.int p4), .val (.int r_1), .val (.int r_3), .val (.int r_5), .val (.int r_7), .val (.ref ob8), .val (.ref ob14), .val (.int (0 : Int32)), .val (.int (3 : Int32)), .unset]) rfl rfl ?_
      refine go_iload (q := 86) X20 hx (hb hby at_84) (v := (0 : Int32)) rfl rfl ?_
      refine go_iload (q := 88) X20 hx (hb hby at_86) (v := (3 : Int32)) rfl rfl ?_
      refine go_icmpN (q := 91) X20 hx (hb hby at_88) (XT.ii_ge_f (by decide)) rfl ?_
      refine go_iload (q := 93) X20 hx (hb hby at_91) (v := r_1) rfl rfl ?_
      refine go_iconst (q := 94) X20 hx (hb hby at_93) (v := (0 : Int32)) (by decide) rfl ?_
      refine go_iload (q := 96) X20 hx (hb hby at_94) (v := (0 : Int32)) rfl rfl ?_
      refine go_iload (q := 98) X20 hx (hb hby at_96) (v := (3 : Int32)) rfl rfl ?_
      have O71 : Old Z n0 h20 := (O19.keep K20 (allS fr14 all0))
      refine go_static (q := 101) X20 hx hZ hown (y := (⟨"com/example/harborspread/harborspread/DecimalsIsDigitsPinLaw", "fine", "(CIII)Z"⟩ : MethodName)) (w58 hw) (w59 hw) (w2 hw) (w60 hw) (by decide) e20 (b14_2 l Z a0 hw r_1 (0 : Int32) (0 : Int32) (3 : Int32) h20 n0 O71 (by decide) (by decide)) (argsL := [(.int r_1), (.int (0 : Int32)), (.int (0 : Int32)), (.int (3 : Int32))]) (rest := []) rfl (lenOf pd_16 rfl) rfl (by rw [hml]; rfl) (W := 0) (Nat.le_of_eq rfl) (hb hby at_98) (by decide) (by decide) (by decide) (by decide) rfl ?_
      have f73 : Arv Z h20 ob8 k8 .char (4 : Int32) [(.int r_1), (.int r_3), (.int r_5), (.int r_7)] (.int (0 : Int32)) := (f18.keep K20 (ninS ne_ob8_ob14 nin0))
      rintro T72 h72 _ L72 X72 e72 ⟨r_72, rfl, M72, K72, p72_0⟩
      have N72 := Fr.app N20 M72
      rcases p72_0 with ⟨rfl, d74⟩ | ⟨rfl, d74⟩
      · refine go_ifN (q := 104) X72 hx (hb hby at_101) (XT.i0_eq_f (by decide)) rfl ?_
        refine go_iload (q := 106) X72 hx (hb hby at_104) (v := r_3) rfl rfl ?_
        refine go_iconst (q := 107) X72 hx (hb hby at_106) (v := (1 : Int32)) (by decide) rfl ?_
        refine go_iload (q := 109) X72 hx (hb hby at_107) (v := (0 : Int32)) rfl rfl ?_
        refine go_iload (q := 111) X72 hx (hb hby at_109) (v := (3 : Int32)) rfl rfl ?_
        have O75 : Old Z n0 h72 := (O71.keep K72 all0)
        refine go_static (q := 114) X72 hx hZ hown (y := (⟨"com/example/harborspread/harborspread/DecimalsIsDigitsPinLaw", "fine", "(CIII)Z"⟩ : MethodName)) (w58 hw) (w59 hw) (w2 hw) (w60 hw) (by decide) e72 (b14_2 l Z a0 hw r_3 (1 : Int32) (0 : Int32) (3 : Int32) h72 n0 O75 (by decide) (by decide)) (argsL := [(.int r_3), (.int (1 : Int32)), (.int (0 : Int32)), (.int (3 : Int32))]) (rest := []) rfl (lenOf pd_16 rfl) rfl (by rw [hml]; rfl) (W := 0) (Nat.le_of_eq rfl) (hb hby at_111) (by decide) (by decide) (by decide) (by decide) rfl ?_
        have f77 : Arv Z h72 ob8 k8 .char (4 : Int32) [(.int r_1), (.int r_3), (.int r_5), (.int r_7)] (.int (0 : Int32)) := (f73.keep K72 nin0)
        have f78 : Exa Z h72 ob14 "java/lang/String" := (p20_1.keep K72)
        rintro T76 h76 _ L76 X76 e76 ⟨r_76, rfl, M76, K76, p76_0⟩
        have N76 := Fr.app N72 M76
        rcases p76_0 with ⟨rfl, d79⟩ | ⟨rfl, d79⟩
        · refine go_ifN (q := 117) X76 hx (hb hby at_114) (XT.i0_eq_f (by decide)) rfl ?_
          refine go_iload (q := 119) X76 hx (hb hby at_117) (v := r_5) rfl rfl ?_
          refine go_iconst (q := 120) X76 hx (hb hby at_119) (v := (2 : Int32)) (by decide) rfl ?_
          refine go_iload (q := 122) X76 hx (hb hby at_120) (v := (0 : Int32)) rfl rfl ?_
          refine go_iload (q := 124) X76 hx (hb hby at_122) (v := (3 : Int32)) rfl rfl ?_
          have O80 : Old Z n0 h76 := (O75.keep K76 all0)
          refine go_static (q := 127) X76 hx hZ hown (y := (⟨"com/example/harborspread/harborspread/DecimalsIsDigitsPinLaw", "fine", "(CIII)Z"⟩ : MethodName)) (w58 hw) (w59 hw) (w2 hw) (w60 hw) (by decide) e76 (b14_2 l Z a0 hw r_5 (2 : Int32) (0 : Int32) (3 : Int32) h76 n0 O80 (by decide) (by decide)) (argsL := [(.int r_5), (.int (2 : Int32)), (.int (0 : Int32)), (.int (3 : Int32))]) (rest := []) rfl (lenOf pd_16 rfl) rfl (by rw [hml]; rfl) (W := 0) (Nat.le_of_eq rfl) (hb hby at_124) (by decide) (by decide) (by decide) (by decide) rfl ?_
          have f82 : Arv Z h76 ob8 k8 .char (4 : Int32) [(.int r_1), (.int r_3), (.int r_5), (.int r_7)] (.int (0 : Int32)) := (f77.keep K76 nin0)
          have f83 : Exa Z h76 ob14 "java/lang/String" := (f78.keep K76)
          rintro T81 h81 _ L81 X81 e81 ⟨r_81, rfl, M81, K81, p81_0⟩
          have N81 := Fr.app N76 M81
          rcases p81_0 with ⟨rfl, d84⟩ | ⟨rfl, d84⟩
          · refine go_ifN (q := 130) X81 hx (hb hby at_127) (XT.i0_eq_f (by decide)) rfl ?_
            refine go_iload (q := 132) X81 hx (hb hby at_130) (v := r_7) rfl rfl ?_
            refine go_iconst (q := 133) X81 hx (hb hby at_132) (v := (3 : Int32)) (by decide) rfl ?_
            refine go_iload (q := 135) X81 hx (hb hby at_133) (v := (0 : Int32)) rfl rfl ?_
            refine go_iload (q := 137) X81 hx (hb hby at_135) (v := (3 : Int32)) rfl rfl ?_
            have O85 : Old Z n0 h81 := (O80.keep K81 all0)
            refine go_static (q := 140) X81 hx hZ hown (y := (⟨"com/example/harborspread/harborspread/DecimalsIsDigitsPinLaw", "fine", "(CIII)Z"⟩ : MethodName)) (w58 hw) (w59 hw) (w2 hw) (w60 hw) (by decide) e81 (b14_1 l Z a0 hw r_7 (3 : Int32) (0 : Int32) (3 : Int32) h81 n0 O85 (by decide) (by decide)) (argsL := [(.int r_7), (.int (3 : Int32)), (.int (0 : Int32)), (.int (3 : Int32))]) (rest := []) rfl (lenOf pd_16 rfl) rfl (by rw [hml]; rfl) (W := 0) (Nat.le_of_eq rfl) (hb hby at_137) (by decide) (by decide) (by decide) (by decide) rfl ?_
            rintro T86 h86 _ L86 X86 e86 ⟨rfl, M86, K86⟩
            have N86 := Fr.app N81 M86
            refine go_ifN (q := 143) X86 hx (hb hby at_140) (XT.i0_eq_f (by decide)) rfl ?_
            refine go_iconst (q := 144) X86 hx (hb hby at_143) (v := (1 : Int32)) (by decide) rfl ?_
            refine go_goto (q := 148) X86 hx (hb hby at_144) (by decide) (by decide) ?_
            refine go_istore (q := 150) X86 hx (hb hby at_148) (l' := #[.val (.int p0), .val (.int p1), .val (.int p2), .val (.int p3), .val (.int p4), .val (.int r_1), .val (.int r_3), .val (.int r_5), .val (.int r_7), .val (.ref ob8), .val (.ref ob14), .val (.int (0 : Int32)), .val (.int (3 : Int32)), .val (.int (1 : Int32))]) rfl rfl ?_
            refine go_aload (q := 152) X86 hx (hb hby at_150) (v := (.ref ob14)) rfl rfl rfl ?_
            refine go_iload (q := 154) X86 hx (hb hby at_152) (v := (0 : Int32)) rfl rfl ?_
            refine go_iload (q := 156) X86 hx (hb hby at_154) (v := (3 : Int32)) rfl rfl ?_
            have f87 : Str4 Z h86 ob14 r_1 r_3 r_5 r_7 := (Str4.keep (Str4.keep (Str4.keep (Str4.keep p20_0 K72) K76) K81) K86)
            have f88 : Exa Z h86 ob14 "java/lang/String" := ((f83.keep K81).keep K86)
            have O89 : Old Z n0 h86 := (O85.keep K86 all0)
            refine go_static (q := 159) X86 hx hZ hown (y := (⟨"com/example/harborspread/harborspread/Decimals", "isDigits", "(Ljava/lang/String;II)Z"⟩ : MethodName)) (w35 hw) (w36 hw) (w37 hw) (w38 hw) (by decide) e86 (b8_3 l Z a0 hw ob14 zc sf rsf r_1 r_3 r_5 r_7 h86 n0 O89 f87 S_0 hr_1 S_2 S_3 S_4 S_5 p1_0 p3_0 p5_0 p7_0 f88) (argsL := [(.ref ob14), (.int (0 : Int32)), (.int (3 : Int32))]) (rest := []) rfl (lenOf pd_15 rfl) rfl (by rw [hml]; rfl) (W := 0) (Nat.le_of_eq rfl) (hb hby at_156) (by decide) (by decide) (by decide) (by decide) rfl ?_
            have f91 : Arv Z h86 ob8 k8 .char (4 : Int32) [(.int r_1), (.int r_3), (.int r_5), (.int r_7)] (.int (0 : Int32)) := ((f82.keep K81 nin0).keep K86 nin0)
            rintro T90 h90 _ L90 X90 e90 ⟨r_90, rfl, M90, K90, p90_0⟩
            have N90 := Fr.app N86 M90
            refine go_iload (q := 161) X90 hx (hb hby at_159) (v := (1 : Int32)) rfl rfl ?_
            refine go_icmpN (q := 164) X90 hx (hb hby at_161) (XT.ii_ne_f (by rcases p90_0 with ⟨q, q2⟩ | ⟨q, q2⟩ <;> first | exact q | (exact absurd ⟨d74, d79, d84⟩ q2))) rfl ?_
            refine go_iconst (q := 165) X90 hx (hb hby at_164) (v := (1 : Int32)) (by decide) rfl ?_
            refine go_goto (q := 169) X90 hx (hb hby at_165) (by decide) (by decide) ?_
            refine go_retI X90 hx hret hlk e90 (hb hby at_169) (by simp) (by decide) (by decide) (by decide) ?_
            exact ⟨(by first | rfl | simp [d74, d79, d84] | simp_all), N90, (((((((((((((((((Keep.refl h0 []).trans K1 all0).trans K3 all0).trans K5 all0).trans K7 all0).ext E8).wr W10 (Or.inr sn8)).wr W11 (Or.inr sn8)).wr W12 (Or.inr sn8)).wr W13 (Or.inr sn8)).ext E14).trans K20 (allS (P := fun x => x ∈ [] ∨ h0.size ≤ x) (Or.inr sn14) all0)).trans K72 all0).trans K76 all0).trans K81 all0).trans K86 all0).trans K90 all0)⟩
          · refine go_ifY (q := 147) X81 hx (hb hby at_127) (XT.i0_eq_t (by decide)) (by decide) (by decide) ?_
            refine go_iconst (q := 148) X81 hx (hb hby at_147) (v := (0 : Int32)) (by decide) rfl ?_
            refine go_istore (q := 150) X81 hx (hb hby at_148) (l' := #[.val (.int p0), .val (.int p1), .val (.int p2), .val (.int p3), .val (.int p4), .val (.int r_1), .val (.int r_3), .val (.int r_5), .val (.int r_7), .val (.ref ob8), .val (.ref ob14), .val (.int (0 : Int32)), .val (.int (3 : Int32)), .val (.int (0 : Int32))]) rfl rfl ?_
            refine go_aload (q := 152) X81 hx (hb hby at_150) (v := (.ref ob14)) rfl rfl rfl ?_
            refine go_iload (q := 154) X81 hx (hb hby at_152) (v := (0 : Int32)) rfl rfl ?_
            refine go_iload (q := 156) X81 hx (hb hby at_154) (v := (3 : Int32)) rfl rfl ?_
            have f92 : Str4 Z h81 ob14 r_1 r_3 r_5 r_7 := (Str4.keep (Str4.keep (Str4.keep p20_0 K72) K76) K81)
            have f93 : Exa Z h81 ob14 "java/lang/String" := (f83.keep K81)
            have O94 : Old Z n0 h81 := (O80.keep K81 all0)
            refine go_static (q := 159) X81 hx hZ hown (y := (⟨"com/example/harborspread/harborspread/Decimals", "isDigits", "(Ljava/lang/String;II)Z"⟩ : MethodName)) (w35 hw) (w36 hw) (w37 hw) (w38 hw) (by decide) e81 (b8_3 l Z a0 hw ob14 zc sf rsf r_1 r_3 r_5 r_7 h81 n0 O94 f92 S_0 hr_1 S_2 S_3 S_4 S_5 p1_0 p3_0 p5_0 p7_0 f93) (argsL := [(.ref ob14), (.int (0 : Int32)), (.int (3 : Int32))]) (rest := []) rfl (lenOf pd_15 rfl) rfl (by rw [hml]; rfl) (W := 0) (Nat.le_of_eq rfl) (hb hby at_156) (by decide) (by decide) (by decide) (by decide) rfl ?_
            have f96 : Arv Z h81 ob8 k8 .char (4 : Int32) [(.int r_1), (.int r_3), (.int r_5), (.int r_7)] (.int (0 : Int32)) := (f82.keep K81 nin0)
            rintro T95 h95 _ L95 X95 e95 ⟨r_95, rfl, M95, K95, p95_0⟩
            have N95 := Fr.app N81 M95
            refine go_iload (q := 161) X95 hx (hb hby at_159) (v := (0 : Int32)) rfl rfl ?_
            refine go_icmpN (q := 164) X95 hx (hb hby at_161) (XT.ii_ne_f (by rcases p95_0 with ⟨q, q2⟩ | ⟨q, q2⟩ <;> first | exact q | (exact absurd (q2.2.2) d84))) rfl ?_
            refine go_iconst (q := 165) X95 hx (hb hby at_164) (v := (1 : Int32)) (by decide) rfl ?_
            refine go_goto (q := 169) X95 hx (hb hby at_165) (by decide) (by decide) ?_
            refine go_retI X95 hx hret hlk e95 (hb hby at_169) (by simp) (by decide) (by decide) (by decide) ?_
            exact ⟨(by first | rfl | simp [d74, d79, d84] | simp_all), N95, ((((((((((((((((Keep.refl h0 []).trans K1 all0).trans K3 all0).trans K5 all0).trans K7 all0).ext E8).wr W10 (Or.inr sn8)).wr W11 (Or.inr sn8)).wr W12 (Or.inr sn8)).wr W13 (Or.inr sn8)).ext E14).trans K20 (allS (P := fun x => x ∈ [] ∨ h0.size ≤ x) (Or.inr sn14) all0)).trans K72 all0).trans K76 all0).trans K81 all0).trans K95 all0)⟩
        · refine go_ifY (q := 147) X76 hx (hb hby at_114) (XT.i0_eq_t (by decide)) (by decide) (by decide) ?_
          refine go_iconst (q := 148) X76 hx (hb hby at_147) (v := (0 : Int32)) (by decide) rfl ?_
          refine go_istore (q := 150) X76 hx (hb hby at_148) (l' := #[.val (.int p0), .val (.int p1), .val (.int p2), .val (.int p3), .val (.int p4), .val (.int r_1), .val (.int r_3), .val (.int r_5), .val (.int r_7), .val (.ref ob8), .val (.ref ob14), .val (.int (0 : Int32)), .val (.int (3 : Int32)), .val (.int (0 : Int32))]) rfl rfl ?_
          refine go_aload (q := 152) X76 hx (hb hby at_150) (v := (.ref ob14)) rfl rfl rfl ?_
          refine go_iload (q := 154) X76 hx (hb hby at_152) (v := (0 : Int32)) rfl rfl ?_
          refine go_iload (q := 156) X76 hx (hb hby at_154) (v := (3 : Int32)) rfl rfl ?_
          have f97 : Str4 Z h76 ob14 r_1 r_3 r_5 r_7 := (Str4.keep (Str4.keep p20_0 K72) K76)
          have f98 : Exa Z h76 ob14 "java/lang/String" := (f78.keep K76)
          have O99 : Old Z n0 h76 := (O75.keep K76 all0)
          refine go_static (q := 159) X76 hx hZ hown (y := (⟨"com/example/harborspread/harborspread/Decimals", "isDigits", "(Ljava/lang/String;II)Z"⟩ : MethodName)) (w35 hw) (w36 hw) (w37 hw) (w38 hw) (by decide) e76 (b8_3 l Z a0 hw ob14 zc sf rsf r_1 r_3 r_5 r_7 h76 n0 O99 f97 S_0 hr_1 S_2 S_3 S_4 S_5 p1_0 p3_0 p5_0 p7_0 f98) (argsL := [(.ref ob14), (.int (0 : Int32)), (.int (3 : Int32))]) (rest := []) rfl (lenOf pd_15 rfl) rfl (by rw [hml]; rfl) (W := 0) (Nat.le_of_eq rfl) (hb hby at_156) (by decide) (by decide) (by decide) (by decide) rfl ?_
          have f101 : Arv Z h76 ob8 k8 .char (4 : Int32) [(.int r_1), (.int r_3), (.int r_5), (.int r_7)] (.int (0 : Int32)) := (f77.keep K76 nin0)
          rintro T100 h100 _ L100 X100 e100 ⟨r_100, rfl, M100, K100, p100_0⟩
          have N100 := Fr.app N76 M100
          refine go_iload (q := 161) X100 hx (hb hby at_159) (v := (0 : Int32)) rfl rfl ?_
          refine go_icmpN (q := 164) X100 hx (hb hby at_161) (XT.ii_ne_f (by rcases p100_0 with ⟨q, q2⟩ | ⟨q, q2⟩ <;> first | exact q | (exact absurd (q2.2.1) d79))) rfl ?_
          refine go_iconst (q := 165) X100 hx (hb hby at_164) (v := (1 : Int32)) (by decide) rfl ?_
          refine go_goto (q := 169) X100 hx (hb hby at_165) (by decide) (by decide) ?_
          refine go_retI X100 hx hret hlk e100 (hb hby at_169) (by simp) (by decide) (by decide) (by decide) ?_
          exact ⟨(by first | rfl | simp [d74, d79] | simp_all), N100, (((((((((((((((Keep.refl h0 []).trans K1 all0).trans K3 all0).trans K5 all0).trans K7 all0).ext E8).wr W10 (Or.inr sn8)).wr W11 (Or.inr sn8)).wr W12 (Or.inr sn8)).wr W13 (Or.inr sn8)).ext E14).trans K20 (allS (P := fun x => x ∈ [] ∨ h0.size ≤ x) (Or.inr sn14) all0)).trans K72 all0).trans K76 all0).trans K100 all0)⟩
      · refine go_ifY (q := 147) X72 hx (hb hby at_101) (XT.i0_eq_t (by decide)) (by decide) (by decide) ?_
        refine go_iconst (q := 148) X72 hx (hb hby at_147) (v := (0 : Int32)) (by decide) rfl ?_
        refine go_istore (q := 150) X72 hx (hb hby at_148) (l' := #[.val (.int p0), .val (.int p1), .val (.int p2), .val (.int p3), .val (.int p4), .val (.int r_1), .val (.int r_3), .val (.int r_5), .val (.int r_7), .val (.ref ob8), .val (.ref ob14), .val (.int (0 : Int32)), .val (.int (3 : Int32)), .val (.int (0 : Int32))]) rfl rfl ?_
        refine go_aload (q := 152) X72 hx (hb hby at_150) (v := (.ref ob14)) rfl rfl rfl ?_
        refine go_iload (q := 154) X72 hx (hb hby at_152) (v := (0 : Int32)) rfl rfl ?_
        refine go_iload (q := 156) X72 hx (hb hby at_154) (v := (3 : Int32)) rfl rfl ?_
        have f102 : Str4 Z h72 ob14 r_1 r_3 r_5 r_7 := (Str4.keep p20_0 K72)
        have f103 : Exa Z h72 ob14 "java/lang/String" := (p20_1.keep K72)
        have O104 : Old Z n0 h72 := (O71.keep K72 all0)
        refine go_static (q := 159) X72 hx hZ hown (y := (⟨"com/example/harborspread/harborspread/Decimals", "isDigits", "(Ljava/lang/String;II)Z"⟩ : MethodName)) (w35 hw) (w36 hw) (w37 hw) (w38 hw) (by decide) e72 (b8_3 l Z a0 hw ob14 zc sf rsf r_1 r_3 r_5 r_7 h72 n0 O104 f102 S_0 hr_1 S_2 S_3 S_4 S_5 p1_0 p3_0 p5_0 p7_0 f103) (argsL := [(.ref ob14), (.int (0 : Int32)), (.int (3 : Int32))]) (rest := []) rfl (lenOf pd_15 rfl) rfl (by rw [hml]; rfl) (W := 0) (Nat.le_of_eq rfl) (hb hby at_156) (by decide) (by decide) (by decide) (by decide) rfl ?_
        have f106 : Arv Z h72 ob8 k8 .char (4 : Int32) [(.int r_1), (.int r_3), (.int r_5), (.int r_7)] (.int (0 : Int32)) := (f73.keep K72 nin0)
        rintro T105 h105 _ L105 X105 e105 ⟨r_105, rfl, M105, K105, p105_0⟩
        have N105 := Fr.app N72 M105
        refine go_iload (q := 161) X105 hx (hb hby at_159) (v := (0 : Int32)) rfl rfl ?_
        refine go_icmpN (q := 164) X105 hx (hb hby at_161) (XT.ii_ne_f (by rcases p105_0 with ⟨q, q2⟩ | ⟨q, q2⟩ <;> first | exact q | (exact absurd (q2.1) d74))) rfl ?_
        refine go_iconst (q := 165) X105 hx (hb hby at_164) (v := (1 : Int32)) (by decide) rfl ?_
        refine go_goto (q := 169) X105 hx (hb hby at_165) (by decide) (by decide) ?_
        refine go_retI X105 hx hret hlk e105 (hb hby at_169) (by simp) (by decide) (by decide) (by decide) ?_
        exact ⟨(by first | rfl | simp [d74] | simp_all), N105, ((((((((((((((Keep.refl h0 []).trans K1 all0).trans K3 all0).trans K5 all0).trans K7 all0).ext E8).wr W10 (Or.inr sn8)).wr W11 (Or.inr sn8)).wr W12 (Or.inr sn8)).wr W13 (Or.inr sn8)).ext E14).trans K20 (allS (P := fun x => x ∈ [] ∨ h0.size ≤ x) (Or.inr sn14) all0)).trans K72 all0).trans K105 all0)⟩
    · rw [c82]
      refine go_istore (q := 84) X20 hx (hb hby at_82) (l' := #[.val (.int p0), .val (.int p1), .val (.int p2), .val (.int p3), .val (.int p4), .val (.int r_1), .val (.int r_3), .val (.int r_5), .val (.int r_7), .val (.ref ob8), .val (.ref ob14), .val (.int (0 : Int32)), .val (.int (4 : Int32)), .unset]) rfl rfl ?_
      refine go_iload (q := 86) X20 hx (hb hby at_84) (v := (0 : Int32)) rfl rfl ?_
      refine go_iload (q := 88) X20 hx (hb hby at_86) (v := (4 : Int32)) rfl rfl ?_
      refine go_icmpN (q := 91) X20 hx (hb hby at_88) (XT.ii_ge_f (by decide)) rfl ?_
      refine go_iload (q := 93) X20 hx (hb hby at_91) (v := r_1) rfl rfl ?_
      refine go_iconst (q := 94) X20 hx (hb hby at_93) (v := (0 : Int32)) (by decide) rfl ?_
      refine go_iload (q := 96) X20 hx (hb hby at_94) (v := (0 : Int32)) rfl rfl ?_
      refine go_iload (q := 98) X20 hx (hb hby at_96) (v := (4 : Int32)) rfl rfl ?_
      have O107 : Old Z n0 h20 := (O19.keep K20 (allS fr14 all0))
      refine go_static (q := 101) X20 hx hZ hown (y := (⟨"com/example/harborspread/harborspread/DecimalsIsDigitsPinLaw", "fine", "(CIII)Z"⟩ : MethodName)) (w58 hw) (w59 hw) (w2 hw) (w60 hw) (by decide) e20 (b14_2 l Z a0 hw r_1 (0 : Int32) (0 : Int32) (4 : Int32) h20 n0 O107 (by decide) (by decide)) (argsL := [(.int r_1), (.int (0 : Int32)), (.int (0 : Int32)), (.int (4 : Int32))]) (rest := []) rfl (lenOf pd_16 rfl) rfl (by rw [hml]; rfl) (W := 0) (Nat.le_of_eq rfl) (hb hby at_98) (by decide) (by decide) (by decide) (by decide) rfl ?_
      have f109 : Arv Z h20 ob8 k8 .char (4 : Int32) [(.int r_1), (.int r_3), (.int r_5), (.int r_7)] (.int (0 : Int32)) := (f18.keep K20 (ninS ne_ob8_ob14 nin0))
      rintro T108 h108 _ L108 X108 e108 ⟨r_108, rfl, M108, K108, p108_0⟩
      have N108 := Fr.app N20 M108
      rcases p108_0 with ⟨rfl, d110⟩ | ⟨rfl, d110⟩
      · refine go_ifN (q := 104) X108 hx (hb hby at_101) (XT.i0_eq_f (by decide)) rfl ?_
        refine go_iload (q := 106) X108 hx (hb hby at_104) (v := r_3) rfl rfl ?_
        refine go_iconst (q := 107) X108 hx (hb hby at_106) (v := (1 : Int32)) (by decide) rfl ?_
        refine go_iload (q := 109) X108 hx (hb hby at_107) (v := (0 : Int32)) rfl rfl ?_
        refine go_iload (q := 111) X108 hx (hb hby at_109) (v := (4 : Int32)) rfl rfl ?_
        have O111 : Old Z n0 h108 := (O107.keep K108 all0)
        refine go_static (q := 114) X108 hx hZ hown (y := (⟨"com/example/harborspread/harborspread/DecimalsIsDigitsPinLaw", "fine", "(CIII)Z"⟩ : MethodName)) (w58 hw) (w59 hw) (w2 hw) (w60 hw) (by decide) e108 (b14_2 l Z a0 hw r_3 (1 : Int32) (0 : Int32) (4 : Int32) h108 n0 O111 (by decide) (by decide)) (argsL := [(.int r_3), (.int (1 : Int32)), (.int (0 : Int32)), (.int (4 : Int32))]) (rest := []) rfl (lenOf pd_16 rfl) rfl (by rw [hml]; rfl) (W := 0) (Nat.le_of_eq rfl) (hb hby at_111) (by decide) (by decide) (by decide) (by decide) rfl ?_
        have f113 : Arv Z h108 ob8 k8 .char (4 : Int32) [(.int r_1), (.int r_3), (.int r_5), (.int r_7)] (.int (0 : Int32)) := (f109.keep K108 nin0)
        have f114 : Exa Z h108 ob14 "java/lang/String" := (p20_1.keep K108)
        rintro T112 h112 _ L112 X112 e112 ⟨r_112, rfl, M112, K112, p112_0⟩
        have N112 := Fr.app N108 M112
        rcases p112_0 with ⟨rfl, d115⟩ | ⟨rfl, d115⟩
        · refine go_ifN (q := 117) X112 hx (hb hby at_114) (XT.i0_eq_f (by decide)) rfl ?_
          refine go_iload (q := 119) X112 hx (hb hby at_117) (v := r_5) rfl rfl ?_
          refine go_iconst (q := 120) X112 hx (hb hby at_119) (v := (2 : Int32)) (by decide) rfl ?_
          refine go_iload (q := 122) X112 hx (hb hby at_120) (v := (0 : Int32)) rfl rfl ?_
          refine go_iload (q := 124) X112 hx (hb hby at_122) (v := (4 : Int32)) rfl rfl ?_
          have O116 : Old Z n0 h112 := (O111.keep K112 all0)
          refine go_static (q := 127) X112 hx hZ hown (y := (⟨"com/example/harborspread/harborspread/DecimalsIsDigitsPinLaw", "fine", "(CIII)Z"⟩ : MethodName)) (w58 hw) (w59 hw) (w2 hw) (w60 hw) (by decide) e112 (b14_2 l Z a0 hw r_5 (2 : Int32) (0 : Int32) (4 : Int32) h112 n0 O116 (by decide) (by decide)) (argsL := [(.int r_5), (.int (2 : Int32)), (.int (0 : Int32)), (.int (4 : Int32))]) (rest := []) rfl (lenOf pd_16 rfl) rfl (by rw [hml]; rfl) (W := 0) (Nat.le_of_eq rfl) (hb hby at_124) (by decide) (by decide) (by decide) (by decide) rfl ?_
          have f118 : Arv Z h112 ob8 k8 .char (4 : Int32) [(.int r_1), (.int r_3), (.int r_5), (.int r_7)] (.int (0 : Int32)) := (f113.keep K112 nin0)
          have f119 : Exa Z h112 ob14 "java/lang/String" := (f114.keep K112)
          rintro T117 h117 _ L117 X117 e117 ⟨r_117, rfl, M117, K117, p117_0⟩
          have N117 := Fr.app N112 M117
          rcases p117_0 with ⟨rfl, d120⟩ | ⟨rfl, d120⟩
          · refine go_ifN (q := 130) X117 hx (hb hby at_127) (XT.i0_eq_f (by decide)) rfl ?_
            refine go_iload (q := 132) X117 hx (hb hby at_130) (v := r_7) rfl rfl ?_
            refine go_iconst (q := 133) X117 hx (hb hby at_132) (v := (3 : Int32)) (by decide) rfl ?_
            refine go_iload (q := 135) X117 hx (hb hby at_133) (v := (0 : Int32)) rfl rfl ?_
            refine go_iload (q := 137) X117 hx (hb hby at_135) (v := (4 : Int32)) rfl rfl ?_
            have O121 : Old Z n0 h117 := (O116.keep K117 all0)
            refine go_static (q := 140) X117 hx hZ hown (y := (⟨"com/example/harborspread/harborspread/DecimalsIsDigitsPinLaw", "fine", "(CIII)Z"⟩ : MethodName)) (w58 hw) (w59 hw) (w2 hw) (w60 hw) (by decide) e117 (b14_2 l Z a0 hw r_7 (3 : Int32) (0 : Int32) (4 : Int32) h117 n0 O121 (by decide) (by decide)) (argsL := [(.int r_7), (.int (3 : Int32)), (.int (0 : Int32)), (.int (4 : Int32))]) (rest := []) rfl (lenOf pd_16 rfl) rfl (by rw [hml]; rfl) (W := 0) (Nat.le_of_eq rfl) (hb hby at_137) (by decide) (by decide) (by decide) (by decide) rfl ?_
            have f123 : Arv Z h117 ob8 k8 .char (4 : Int32) [(.int r_1), (.int r_3), (.int r_5), (.int r_7)] (.int (0 : Int32)) := (f118.keep K117 nin0)
            have f124 : Exa Z h117 ob14 "java/lang/String" := (f119.keep K117)
            rintro T122 h122 _ L122 X122 e122 ⟨r_122, rfl, M122, K122, p122_0⟩
            have N122 := Fr.app N117 M122
            rcases p122_0 with ⟨rfl, d125⟩ | ⟨rfl, d125⟩
            · refine go_ifN (q := 143) X122 hx (hb hby at_140) (XT.i0_eq_f (by decide)) rfl ?_
              refine go_iconst (q := 144) X122 hx (hb hby at_143) (v := (1 : Int32)) (by decide) rfl ?_
              refine go_goto (q := 148) X122 hx (hb hby at_144) (by decide) (by decide) ?_
              refine go_istore (q := 150) X122 hx (hb hby at_148) (l' := #[.val (.int p0), .val (.int p1), .val (.int p2), .val (.int p3), .val (.int p4), .val (.int r_1), .val (.int r_3), .val (.int r_5), .val (.int r_7), .val (.ref ob8), .val (.ref ob14), .val (.int (0 : Int32)), .val (.int (4 : Int32)), .val (.int (1 : Int32))]) rfl rfl ?_
              refine go_aload (q := 152) X122 hx (hb hby at_150) (v := (.ref ob14)) rfl rfl rfl ?_
              refine go_iload (q := 154) X122 hx (hb hby at_152) (v := (0 : Int32)) rfl rfl ?_
              refine go_iload (q := 156) X122 hx (hb hby at_154) (v := (4 : Int32)) rfl rfl ?_
              have f126 : Str4 Z h122 ob14 r_1 r_3 r_5 r_7 := (Str4.keep (Str4.keep (Str4.keep (Str4.keep p20_0 K108) K112) K117) K122)
              have f127 : Exa Z h122 ob14 "java/lang/String" := (f124.keep K122)
              have O128 : Old Z n0 h122 := (O121.keep K122 all0)
              refine go_static (q := 159) X122 hx hZ hown (y := (⟨"com/example/harborspread/harborspread/Decimals", "isDigits", "(Ljava/lang/String;II)Z"⟩ : MethodName)) (w35 hw) (w36 hw) (w37 hw) (w38 hw) (by decide) e122 (b8_4 l Z a0 hw ob14 zc sf rsf r_1 r_3 r_5 r_7 h122 n0 O128 f126 S_0 hr_1 S_2 S_3 S_4 S_5 p1_0 p3_0 p5_0 p7_0 f127) (argsL := [(.ref ob14), (.int (0 : Int32)), (.int (4 : Int32))]) (rest := []) rfl (lenOf pd_15 rfl) rfl (by rw [hml]; rfl) (W := 0) (Nat.le_of_eq rfl) (hb hby at_156) (by decide) (by decide) (by decide) (by decide) rfl ?_
              have f130 : Arv Z h122 ob8 k8 .char (4 : Int32) [(.int r_1), (.int r_3), (.int r_5), (.int r_7)] (.int (0 : Int32)) := (f123.keep K122 nin0)
              rintro T129 h129 _ L129 X129 e129 ⟨r_129, rfl, M129, K129, p129_0⟩
              have N129 := Fr.app N122 M129
              refine go_iload (q := 161) X129 hx (hb hby at_159) (v := (1 : Int32)) rfl rfl ?_
              refine go_icmpN (q := 164) X129 hx (hb hby at_161) (XT.ii_ne_f (by rcases p129_0 with ⟨q, q2⟩ | ⟨q, q2⟩ <;> first | exact q | (exact absurd ⟨d110, d115, d120, d125⟩ q2))) rfl ?_
              refine go_iconst (q := 165) X129 hx (hb hby at_164) (v := (1 : Int32)) (by decide) rfl ?_
              refine go_goto (q := 169) X129 hx (hb hby at_165) (by decide) (by decide) ?_
              refine go_retI X129 hx hret hlk e129 (hb hby at_169) (by simp) (by decide) (by decide) (by decide) ?_
              exact ⟨(by first | rfl | simp [d110, d115, d120, d125] | simp_all), N129, (((((((((((((((((Keep.refl h0 []).trans K1 all0).trans K3 all0).trans K5 all0).trans K7 all0).ext E8).wr W10 (Or.inr sn8)).wr W11 (Or.inr sn8)).wr W12 (Or.inr sn8)).wr W13 (Or.inr sn8)).ext E14).trans K20 (allS (P := fun x => x ∈ [] ∨ h0.size ≤ x) (Or.inr sn14) all0)).trans K108 all0).trans K112 all0).trans K117 all0).trans K122 all0).trans K129 all0)⟩
            · refine go_ifY (q := 147) X122 hx (hb hby at_140) (XT.i0_eq_t (by decide)) (by decide) (by decide) ?_
              refine go_iconst (q := 148) X122 hx (hb hby at_147) (v := (0 : Int32)) (by decide) rfl ?_
              refine go_istore (q := 150) X122 hx (hb hby at_148) (l' := #[.val (.int p0), .val (.int p1), .val (.int p2), .val (.int p3), .val (.int p4), .val (.int r_1), .val (.int r_3), .val (.int r_5), .val (.int r_7), .val (.ref ob8), .val (.ref ob14), .val (.int (0 : Int32)), .val (.int (4 : Int32)), .val (.int (0 : Int32))]) rfl rfl ?_
              refine go_aload (q := 152) X122 hx (hb hby at_150) (v := (.ref ob14)) rfl rfl rfl ?_
              refine go_iload (q := 154) X122 hx (hb hby at_152) (v := (0 : Int32)) rfl rfl ?_
              refine go_iload (q := 156) X122 hx (hb hby at_154) (v := (4 : Int32)) rfl rfl ?_
              have f131 : Str4 Z h122 ob14 r_1 r_3 r_5 r_7 := (Str4.keep (Str4.keep (Str4.keep (Str4.keep p20_0 K108) K112) K117) K122)
              have f132 : Exa Z h122 ob14 "java/lang/String" := (f124.keep K122)
              have O133 : Old Z n0 h122 := (O121.keep K122 all0)
              refine go_static (q := 159) X122 hx hZ hown (y := (⟨"com/example/harborspread/harborspread/Decimals", "isDigits", "(Ljava/lang/String;II)Z"⟩ : MethodName)) (w35 hw) (w36 hw) (w37 hw) (w38 hw) (by decide) e122 (b8_4 l Z a0 hw ob14 zc sf rsf r_1 r_3 r_5 r_7 h122 n0 O133 f131 S_0 hr_1 S_2 S_3 S_4 S_5 p1_0 p3_0 p5_0 p7_0 f132) (argsL := [(.ref ob14), (.int (0 : Int32)), (.int (4 : Int32))]) (rest := []) rfl (lenOf pd_15 rfl) rfl (by rw [hml]; rfl) (W := 0) (Nat.le_of_eq rfl) (hb hby at_156) (by decide) (by decide) (by decide) (by decide) rfl ?_
              have f135 : Arv Z h122 ob8 k8 .char (4 : Int32) [(.int r_1), (.int r_3), (.int r_5), (.int r_7)] (.int (0 : Int32)) := (f123.keep K122 nin0)
              rintro T134 h134 _ L134 X134 e134 ⟨r_134, rfl, M134, K134, p134_0⟩
              have N134 := Fr.app N122 M134
              refine go_iload (q := 161) X134 hx (hb hby at_159) (v := (0 : Int32)) rfl rfl ?_
              refine go_icmpN (q := 164) X134 hx (hb hby at_161) (XT.ii_ne_f (by rcases p134_0 with ⟨q, q2⟩ | ⟨q, q2⟩ <;> first | exact q | (exact absurd (q2.2.2.2) d125))) rfl ?_
              refine go_iconst (q := 165) X134 hx (hb hby at_164) (v := (1 : Int32)) (by decide) rfl ?_
              refine go_goto (q := 169) X134 hx (hb hby at_165) (by decide) (by decide) ?_
              refine go_retI X134 hx hret hlk e134 (hb hby at_169) (by simp) (by decide) (by decide) (by decide) ?_
              exact ⟨(by first | rfl | simp [d110, d115, d120, d125] | simp_all), N134, (((((((((((((((((Keep.refl h0 []).trans K1 all0).trans K3 all0).trans K5 all0).trans K7 all0).ext E8).wr W10 (Or.inr sn8)).wr W11 (Or.inr sn8)).wr W12 (Or.inr sn8)).wr W13 (Or.inr sn8)).ext E14).trans K20 (allS (P := fun x => x ∈ [] ∨ h0.size ≤ x) (Or.inr sn14) all0)).trans K108 all0).trans K112 all0).trans K117 all0).trans K122 all0).trans K134 all0)⟩
          · refine go_ifY (q := 147) X117 hx (hb hby at_127) (XT.i0_eq_t (by decide)) (by decide) (by decide) ?_
            refine go_iconst (q := 148) X117 hx (hb hby at_147) (v := (0 : Int32)) (by decide) rfl ?_
            refine go_istore (q := 150) X117 hx (hb hby at_148) (l' := #[.val (.int p0), .val (.int p1), .val (.int p2), .val (.int p3), .val (.int p4), .val (.int r_1), .val (.int r_3), .val (.int r_5), .val (.int r_7), .val (.ref ob8), .val (.ref ob14), .val (.int (0 : Int32)), .val (.int (4 : Int32)), .val (.int (0 : Int32))]) rfl rfl ?_
            refine go_aload (q := 152) X117 hx (hb hby at_150) (v := (.ref ob14)) rfl rfl rfl ?_
            refine go_iload (q := 154) X117 hx (hb hby at_152) (v := (0 : Int32)) rfl rfl ?_
            refine go_iload (q := 156) X117 hx (hb hby at_154) (v := (4 : Int32)) rfl rfl ?_
            have f136 : Str4 Z h117 ob14 r_1 r_3 r_5 r_7 := (Str4.keep (Str4.keep (Str4.keep p20_0 K108) K112) K117)
            have f137 : Exa Z h117 ob14 "java/lang/String" := (f119.keep K117)
            have O138 : Old Z n0 h117 := (O116.keep K117 all0)
            refine go_static (q := 159) X117 hx hZ hown (y := (⟨"com/example/harborspread/harborspread/Decimals", "isDigits", "(Ljava/lang/String;II)Z"⟩ : MethodName)) (w35 hw) (w36 hw) (w37 hw) (w38 hw) (by decide) e117 (b8_4 l Z a0 hw ob14 zc sf rsf r_1 r_3 r_5 r_7 h117 n0 O138 f136 S_0 hr_1 S_2 S_3 S_4 S_5 p1_0 p3_0 p5_0 p7_0 f137) (argsL := [(.ref ob14), (.int (0 : Int32)), (.int (4 : Int32))]) (rest := []) rfl (lenOf pd_15 rfl) rfl (by rw [hml]; rfl) (W := 0) (Nat.le_of_eq rfl) (hb hby at_156) (by decide) (by decide) (by decide) (by decide) rfl ?_
            have f140 : Arv Z h117 ob8 k8 .char (4 : Int32) [(.int r_1), (.int r_3), (.int r_5), (.int r_7)] (.int (0 : Int32)) := (f118.keep K117 nin0)
            rintro T139 h139 _ L139 X139 e139 ⟨r_139, rfl, M139, K139, p139_0⟩
            have N139 := Fr.app N117 M139
            refine go_iload (q := 161) X139 hx (hb hby at_159) (v := (0 : Int32)) rfl rfl ?_
            refine go_icmpN (q := 164) X139 hx (hb hby at_161) (XT.ii_ne_f (by rcases p139_0 with ⟨q, q2⟩ | ⟨q, q2⟩ <;> first | exact q | (exact absurd (q2.2.2.1) d120))) rfl ?_
            refine go_iconst (q := 165) X139 hx (hb hby at_164) (v := (1 : Int32)) (by decide) rfl ?_
            refine go_goto (q := 169) X139 hx (hb hby at_165) (by decide) (by decide) ?_
            refine go_retI X139 hx hret hlk e139 (hb hby at_169) (by simp) (by decide) (by decide) (by decide) ?_
            exact ⟨(by first | rfl | simp [d110, d115, d120] | simp_all), N139, ((((((((((((((((Keep.refl h0 []).trans K1 all0).trans K3 all0).trans K5 all0).trans K7 all0).ext E8).wr W10 (Or.inr sn8)).wr W11 (Or.inr sn8)).wr W12 (Or.inr sn8)).wr W13 (Or.inr sn8)).ext E14).trans K20 (allS (P := fun x => x ∈ [] ∨ h0.size ≤ x) (Or.inr sn14) all0)).trans K108 all0).trans K112 all0).trans K117 all0).trans K139 all0)⟩
        · refine go_ifY (q := 147) X112 hx (hb hby at_114) (XT.i0_eq_t (by decide)) (by decide) (by decide) ?_
          refine go_iconst (q := 148) X112 hx (hb hby at_147) (v := (0 : Int32)) (by decide) rfl ?_
          refine go_istore (q := 150) X112 hx (hb hby at_148) (l' := #[.val (.int p0), .val (.int p1), .val (.int p2), .val (.int p3), .val (.int p4), .val (.int r_1), .val (.int r_3), .val (.int r_5), .val (.int r_7), .val (.ref ob8), .val (.ref ob14), .val (.int (0 : Int32)), .val (.int (4 : Int32)), .val (.int (0 : Int32))]) rfl rfl ?_
          refine go_aload (q := 152) X112 hx (hb hby at_150) (v := (.ref ob14)) rfl rfl rfl ?_
          refine go_iload (q := 154) X112 hx (hb hby at_152) (v := (0 : Int32)) rfl rfl ?_
          refine go_iload (q := 156) X112 hx (hb hby at_154) (v := (4 : Int32)) rfl rfl ?_
          have f141 : Str4 Z h112 ob14 r_1 r_3 r_5 r_7 := (Str4.keep (Str4.keep p20_0 K108) K112)
          have f142 : Exa Z h112 ob14 "java/lang/String" := (f114.keep K112)
          have O143 : Old Z n0 h112 := (O111.keep K112 all0)
          refine go_static (q := 159) X112 hx hZ hown (y := (⟨"com/example/harborspread/harborspread/Decimals", "isDigits", "(Ljava/lang/String;II)Z"⟩ : MethodName)) (w35 hw) (w36 hw) (w37 hw) (w38 hw) (by decide) e112 (b8_4 l Z a0 hw ob14 zc sf rsf r_1 r_3 r_5 r_7 h112 n0 O143 f141 S_0 hr_1 S_2 S_3 S_4 S_5 p1_0 p3_0 p5_0 p7_0 f142) (argsL := [(.ref ob14), (.int (0 : Int32)), (.int (4 : Int32))]) (rest := []) rfl (lenOf pd_15 rfl) rfl (by rw [hml]; rfl) (W := 0) (Nat.le_of_eq rfl) (hb hby at_156) (by decide) (by decide) (by decide) (by decide) rfl ?_
          have f145 : Arv Z h112 ob8 k8 .char (4 : Int32) [(.int r_1), (.int r_3), (.int r_5), (.int r_7)] (.int (0 : Int32)) := (f113.keep K112 nin0)
          rintro T144 h144 _ L144 X144 e144 ⟨r_144, rfl, M144, K144, p144_0⟩
          have N144 := Fr.app N112 M144
          refine go_iload (q := 161) X144 hx (hb hby at_159) (v := (0 : Int32)) rfl rfl ?_
          refine go_icmpN (q := 164) X144 hx (hb hby at_161) (XT.ii_ne_f (by rcases p144_0 with ⟨q, q2⟩ | ⟨q, q2⟩ <;> first | exact q | (exact absurd (q2.2.1) d115))) rfl ?_
          refine go_iconst (q := 165) X144 hx (hb hby at_164) (v := (1 : Int32)) (by decide) rfl ?_
          refine go_goto (q := 169) X144 hx (hb hby at_165) (by decide) (by decide) ?_
          refine go_retI X144 hx hret hlk e144 (hb hby at_169) (by simp) (by decide) (by decide) (by decide) ?_
          exact ⟨(by first | rfl | simp [d110, d115] | simp_all), N144, (((((((((((((((Keep.refl h0 []).trans K1 all0).trans K3 all0).trans K5 all0).trans K7 all0).ext E8).wr W10 (Or.inr sn8)).wr W11 (Or.inr sn8)).wr W12 (Or.inr sn8)).wr W13 (Or.inr sn8)).ext E14).trans K20 (allS (P := fun x => x ∈ [] ∨ h0.size ≤ x) (Or.inr sn14) all0)).trans K108 all0).trans K112 all0).trans K144 all0)⟩
      · refine go_ifY (q := 147) X108 hx (hb hby at_101) (XT.i0_eq_t (by decide)) (by decide) (by decide) ?_
        refine go_iconst (q := 148) X108 hx (hb hby at_147) (v := (0 : Int32)) (by decide) rfl ?_
        refine go_istore (q := 150) X108 hx (hb hby at_148) (l' := #[.val (.int p0), .val (.int p1), .val (.int p2), .val (.int p3), .val (.int p4), .val (.int r_1), .val (.int r_3), .val (.int r_5), .val (.int r_7), .val (.ref ob8), .val (.ref ob14), .val (.int (0 : Int32)), .val (.int (4 : Int32)), .val (.int (0 : Int32))]) rfl rfl ?_
        refine go_aload (q := 152) X108 hx (hb hby at_150) (v := (.ref ob14)) rfl rfl rfl ?_
        refine go_iload (q := 154) X108 hx (hb hby at_152) (v := (0 : Int32)) rfl rfl ?_
        refine go_iload (q := 156) X108 hx (hb hby at_154) (v := (4 : Int32)) rfl rfl ?_
        have f146 : Str4 Z h108 ob14 r_1 r_3 r_5 r_7 := (Str4.keep p20_0 K108)
        have f147 : Exa Z h108 ob14 "java/lang/String" := (p20_1.keep K108)
        have O148 : Old Z n0 h108 := (O107.keep K108 all0)
        refine go_static (q := 159) X108 hx hZ hown (y := (⟨"com/example/harborspread/harborspread/Decimals", "isDigits", "(Ljava/lang/String;II)Z"⟩ : MethodName)) (w35 hw) (w36 hw) (w37 hw) (w38 hw) (by decide) e108 (b8_4 l Z a0 hw ob14 zc sf rsf r_1 r_3 r_5 r_7 h108 n0 O148 f146 S_0 hr_1 S_2 S_3 S_4 S_5 p1_0 p3_0 p5_0 p7_0 f147) (argsL := [(.ref ob14), (.int (0 : Int32)), (.int (4 : Int32))]) (rest := []) rfl (lenOf pd_15 rfl) rfl (by rw [hml]; rfl) (W := 0) (Nat.le_of_eq rfl) (hb hby at_156) (by decide) (by decide) (by decide) (by decide) rfl ?_
        have f150 : Arv Z h108 ob8 k8 .char (4 : Int32) [(.int r_1), (.int r_3), (.int r_5), (.int r_7)] (.int (0 : Int32)) := (f109.keep K108 nin0)
        rintro T149 h149 _ L149 X149 e149 ⟨r_149, rfl, M149, K149, p149_0⟩
        have N149 := Fr.app N108 M149
        refine go_iload (q := 161) X149 hx (hb hby at_159) (v := (0 : Int32)) rfl rfl ?_
        refine go_icmpN (q := 164) X149 hx (hb hby at_161) (XT.ii_ne_f (by rcases p149_0 with ⟨q, q2⟩ | ⟨q, q2⟩ <;> first | exact q | (exact absurd (q2.1) d110))) rfl ?_
        refine go_iconst (q := 165) X149 hx (hb hby at_164) (v := (1 : Int32)) (by decide) rfl ?_
        refine go_goto (q := 169) X149 hx (hb hby at_165) (by decide) (by decide) ?_
        refine go_retI X149 hx hret hlk e149 (hb hby at_169) (by simp) (by decide) (by decide) (by decide) ?_
        exact ⟨(by first | rfl | simp [d110] | simp_all), N149, ((((((((((((((Keep.refl h0 []).trans K1 all0).trans K3 all0).trans K5 all0).trans K7 all0).ext E8).wr W10 (Or.inr sn8)).wr W11 (Or.inr sn8)).wr W12 (Or.inr sn8)).wr W13 (Or.inr sn8)).ext E14).trans K20 (allS (P := fun x => x ∈ [] ∨ h0.size ≤ x) (Or.inr sn14) all0)).trans K108 all0).trans K149 all0)⟩
  · rw [c71]
    refine go_istore (q := 73) X20 hx (hb hby at_71) (l' := #[.val (.int p0), .val (.int p1), .val (.int p2), .val (.int p3), .val (.int p4), .val (.int r_1), .val (.int r_3), .val (.int r_5), .val (.int r_7), .val (.ref ob8), .val (.ref ob14), .val (.int (1 : Int32)), .unset, .unset]) rfl rfl ?_
    refine go_iload (q := 75) X20 hx (hb hby at_73) (v := p4) rfl rfl ?_
    refine go_iconst (q := 76) X20 hx (hb hby at_75) (v := (3 : Int32)) (by decide) rfl ?_
    refine go_iushr (q := 77) X20 hx (hb hby at_76) (v := (XT.ushr p4 (3 : Int32))) rfl rfl ?_
    refine go_bipush (q := 79) X20 hx (hb hby at_77) (v := (7 : Int32)) (by decide) rfl ?_
    refine go_iand (q := 80) X20 hx (hb hby at_79) (v := ((XT.ushr p4 (3 : Int32)) &&& (7 : Int32))) rfl rfl ?_
    refine go_iconst (q := 81) X20 hx (hb hby at_80) (v := (5 : Int32)) (by decide) rfl ?_
    refine go_irem (q := 82) X20 hx (hb hby at_81) (by decide) rfl ?_
    rcases own_t5 p4 with c82 | c82 | c82 | c82 | c82
    · rw [c82]
      refine go_istore (q := 84) X20 hx (hb hby at_82) (l' := #[.val (.int p0), .val (.int p1), .val (.int p2), .val (.int p3), .val (.int p4), .val (.int r_1), .val (.int r_3), .val (.int r_5), .val (.int r_7), .val (.ref ob8), .val (.ref ob14), .val (.int (1 : Int32)), .val (.int (0 : Int32)), .unset]) rfl rfl ?_
      refine go_iload (q := 86) X20 hx (hb hby at_84) (v := (1 : Int32)) rfl rfl ?_
      refine go_iload (q := 88) X20 hx (hb hby at_86) (v := (0 : Int32)) rfl rfl ?_
      refine go_icmpY (q := 147) X20 hx (hb hby at_88) (XT.ii_ge_t (by decide)) (by decide) (by decide) ?_
      refine go_iconst (q := 148) X20 hx (hb hby at_147) (v := (0 : Int32)) (by decide) rfl ?_
      refine go_istore (q := 150) X20 hx (hb hby at_148) (l' := #[.val (.int p0), .val (.int p1), .val (.int p2), .val (.int p3), .val (.int p4), .val (.int r_1), .val (.int r_3), .val (.int r_5), .val (.int r_7), .val (.ref ob8), .val (.ref ob14), .val (.int (1 : Int32)), .val (.int (0 : Int32)), .val (.int (0 : Int32))]) rfl rfl ?_
      refine go_aload (q := 152) X20 hx (hb hby at_150) (v := (.ref ob14)) rfl rfl rfl ?_
      refine go_iload (q := 154) X20 hx (hb hby at_152) (v := (1 : Int32)) rfl rfl ?_
      refine go_iload (q := 156) X20 hx (hb hby at_154) (v := (0 : Int32)) rfl rfl ?_
      have O151 : Old Z n0 h20 := (O19.keep K20 (allS fr14 all0))
      refine go_static (q := 159) X20 hx hZ hown (y := (⟨"com/example/harborspread/harborspread/Decimals", "isDigits", "(Ljava/lang/String;II)Z"⟩ : MethodName)) (w35 hw) (w36 hw) (w37 hw) (w38 hw) (by decide) e20 (b8 l Z a0 hw ob14 (1 : Int32) (0 : Int32) h20 n0 O151 (by decide)) (argsL := [(.ref ob14), (.int (1 : Int32)), (.int (0 : Int32))]) (rest := []) rfl (lenOf pd_15 rfl) rfl (by rw [hml]; rfl) (W := 0) (Nat.le_of_eq rfl) (hb hby at_156) (by decide) (by decide) (by decide) (by decide) rfl ?_
      rintro T152 h152 _ L152 X152 e152 ⟨rfl, M152, K152⟩
      have N152 := Fr.app N20 M152
      refine go_iload (q := 161) X152 hx (hb hby at_159) (v := (0 : Int32)) rfl rfl ?_
      refine go_icmpN (q := 164) X152 hx (hb hby at_161) (XT.ii_ne_f (by decide)) rfl ?_
      refine go_iconst (q := 165) X152 hx (hb hby at_164) (v := (1 : Int32)) (by decide) rfl ?_
      refine go_goto (q := 169) X152 hx (hb hby at_165) (by decide) (by decide) ?_
      refine go_retI X152 hx hret hlk e152 (hb hby at_169) (by simp) (by decide) (by decide) (by decide) ?_
      exact ⟨rfl, N152, (((((((((((((Keep.refl h0 []).trans K1 all0).trans K3 all0).trans K5 all0).trans K7 all0).ext E8).wr W10 (Or.inr sn8)).wr W11 (Or.inr sn8)).wr W12 (Or.inr sn8)).wr W13 (Or.inr sn8)).ext E14).trans K20 (allS (P := fun x => x ∈ [] ∨ h0.size ≤ x) (Or.inr sn14) all0)).trans K152 all0)⟩
    · rw [c82]
      refine go_istore (q := 84) X20 hx (hb hby at_82) (l' := #[.val (.int p0), .val (.int p1), .val (.int p2), .val (.int p3), .val (.int p4), .val (.int r_1), .val (.int r_3), .val (.int r_5), .val (.int r_7), .val (.ref ob8), .val (.ref ob14), .val (.int (1 : Int32)), .val (.int (1 : Int32)), .unset]) rfl rfl ?_
      refine go_iload (q := 86) X20 hx (hb hby at_84) (v := (1 : Int32)) rfl rfl ?_
      refine go_iload (q := 88) X20 hx (hb hby at_86) (v := (1 : Int32)) rfl rfl ?_
      refine go_icmpY (q := 147) X20 hx (hb hby at_88) (XT.ii_ge_t (by decide)) (by decide) (by decide) ?_
      refine go_iconst (q := 148) X20 hx (hb hby at_147) (v := (0 : Int32)) (by decide) rfl ?_
      refine go_istore (q := 150) X20 hx (hb hby at_148) (l' := #[.val (.int p0), .val (.int p1), .val (.int p2), .val (.int p3), .val (.int p4), .val (.int r_1), .val (.int r_3), .val (.int r_5), .val (.int r_7), .val (.ref ob8), .val (.ref ob14), .val (.int (1 : Int32)), .val (.int (1 : Int32)), .val (.int (0 : Int32))]) rfl rfl ?_
      refine go_aload (q := 152) X20 hx (hb hby at_150) (v := (.ref ob14)) rfl rfl rfl ?_
      refine go_iload (q := 154) X20 hx (hb hby at_152) (v := (1 : Int32)) rfl rfl ?_
      refine go_iload (q := 156) X20 hx (hb hby at_154) (v := (1 : Int32)) rfl rfl ?_
      have O153 : Old Z n0 h20 := (O19.keep K20 (allS fr14 all0))
      refine go_static (q := 159) X20 hx hZ hown (y := (⟨"com/example/harborspread/harborspread/Decimals", "isDigits", "(Ljava/lang/String;II)Z"⟩ : MethodName)) (w35 hw) (w36 hw) (w37 hw) (w38 hw) (by decide) e20 (b8 l Z a0 hw ob14 (1 : Int32) (1 : Int32) h20 n0 O153 (by decide)) (argsL := [(.ref ob14), (.int (1 : Int32)), (.int (1 : Int32))]) (rest := []) rfl (lenOf pd_15 rfl) rfl (by rw [hml]; rfl) (W := 0) (Nat.le_of_eq rfl) (hb hby at_156) (by decide) (by decide) (by decide) (by decide) rfl ?_
      rintro T154 h154 _ L154 X154 e154 ⟨rfl, M154, K154⟩
      have N154 := Fr.app N20 M154
      refine go_iload (q := 161) X154 hx (hb hby at_159) (v := (0 : Int32)) rfl rfl ?_
      refine go_icmpN (q := 164) X154 hx (hb hby at_161) (XT.ii_ne_f (by decide)) rfl ?_
      refine go_iconst (q := 165) X154 hx (hb hby at_164) (v := (1 : Int32)) (by decide) rfl ?_
      refine go_goto (q := 169) X154 hx (hb hby at_165) (by decide) (by decide) ?_
      refine go_retI X154 hx hret hlk e154 (hb hby at_169) (by simp) (by decide) (by decide) (by decide) ?_
      exact ⟨rfl, N154, (((((((((((((Keep.refl h0 []).trans K1 all0).trans K3 all0).trans K5 all0).trans K7 all0).ext E8).wr W10 (Or.inr sn8)).wr W11 (Or.inr sn8)).wr W12 (Or.inr sn8)).wr W13 (Or.inr sn8)).ext E14).trans K20 (allS (P := fun x => x ∈ [] ∨ h0.size ≤ x) (Or.inr sn14) all0)).trans K154 all0)⟩
    · rw [c82]
      refine go_istore (q := 84) X20 hx (hb hby at_82) (l' := #[.val (.int p0), .val (.int p1), .val (.int p2), .val (.int p3), .val (.int p4), .val (.int r_1), .val (.int r_3), .val (.int r_5), .val (.int r_7), .val (.ref ob8), .val (.ref ob14), .val (.int (1 : Int32)), .val (.int (2 : Int32)), .unset]) rfl rfl ?_
      refine go_iload (q := 86) X20 hx (hb hby at_84) (v := (1 : Int32)) rfl rfl ?_
      refine go_iload (q := 88) X20 hx (hb hby at_86) (v := (2 : Int32)) rfl rfl ?_
      refine go_icmpN (q := 91) X20 hx (hb hby at_88) (XT.ii_ge_f (by decide)) rfl ?_
      refine go_iload (q := 93) X20 hx (hb hby at_91) (v := r_1) rfl rfl ?_
      refine go_iconst (q := 94) X20 hx (hb hby at_93) (v := (0 : Int32)) (by decide) rfl ?_
      refine go_iload (q := 96) X20 hx (hb hby at_94) (v := (1 : Int32)) rfl rfl ?_
      refine go_iload (q := 98) X20 hx (hb hby at_96) (v := (2 : Int32)) rfl rfl ?_
      have O155 : Old Z n0 h20 := (O19.keep K20 (allS fr14 all0))
      refine go_static (q := 101) X20 hx hZ hown (y := (⟨"com/example/harborspread/harborspread/DecimalsIsDigitsPinLaw", "fine", "(CIII)Z"⟩ : MethodName)) (w58 hw) (w59 hw) (w2 hw) (w60 hw) (by decide) e20 (b14 l Z a0 hw r_1 (0 : Int32) (1 : Int32) (2 : Int32) h20 n0 O155 (by decide)) (argsL := [(.int r_1), (.int (0 : Int32)), (.int (1 : Int32)), (.int (2 : Int32))]) (rest := []) rfl (lenOf pd_16 rfl) rfl (by rw [hml]; rfl) (W := 0) (Nat.le_of_eq rfl) (hb hby at_98) (by decide) (by decide) (by decide) (by decide) rfl ?_
      rintro T156 h156 _ L156 X156 e156 ⟨rfl, M156, K156⟩
      have N156 := Fr.app N20 M156
      refine go_ifN (q := 104) X156 hx (hb hby at_101) (XT.i0_eq_f (by decide)) rfl ?_
      refine go_iload (q := 106) X156 hx (hb hby at_104) (v := r_3) rfl rfl ?_
      refine go_iconst (q := 107) X156 hx (hb hby at_106) (v := (1 : Int32)) (by decide) rfl ?_
      refine go_iload (q := 109) X156 hx (hb hby at_107) (v := (1 : Int32)) rfl rfl ?_
      refine go_iload (q := 111) X156 hx (hb hby at_109) (v := (2 : Int32)) rfl rfl ?_
      have O157 : Old Z n0 h156 := (O155.keep K156 all0)
      refine go_static (q := 114) X156 hx hZ hown (y := (⟨"com/example/harborspread/harborspread/DecimalsIsDigitsPinLaw", "fine", "(CIII)Z"⟩ : MethodName)) (w58 hw) (w59 hw) (w2 hw) (w60 hw) (by decide) e156 (b14_2 l Z a0 hw r_3 (1 : Int32) (1 : Int32) (2 : Int32) h156 n0 O157 (by decide) (by decide)) (argsL := [(.int r_3), (.int (1 : Int32)), (.int (1 : Int32)), (.int (2 : Int32))]) (rest := []) rfl (lenOf pd_16 rfl) rfl (by rw [hml]; rfl) (W := 0) (Nat.le_of_eq rfl) (hb hby at_111) (by decide) (by decide) (by decide) (by decide) rfl ?_
      have f159 : Arv Z h156 ob8 k8 .char (4 : Int32) [(.int r_1), (.int r_3), (.int r_5), (.int r_7)] (.int (0 : Int32)) := ((f18.keep K20 (ninS ne_ob8_ob14 nin0)).keep K156 nin0)
      have f160 : Exa Z h156 ob14 "java/lang/String" := (p20_1.keep K156)
      rintro T158 h158 _ L158 X158 e158 ⟨r_158, rfl, M158, K158, p158_0⟩
      have N158 := Fr.app N156 M158
      rcases p158_0 with ⟨rfl, d161⟩ | ⟨rfl, d161⟩
      · refine go_ifN (q := 117) X158 hx (hb hby at_114) (XT.i0_eq_f (by decide)) rfl ?_
        refine go_iload (q := 119) X158 hx (hb hby at_117) (v := r_5) rfl rfl ?_
        refine go_iconst (q := 120) X158 hx (hb hby at_119) (v := (2 : Int32)) (by decide) rfl ?_
        refine go_iload (q := 122) X158 hx (hb hby at_120) (v := (1 : Int32)) rfl rfl ?_
        refine go_iload (q := 124) X158 hx (hb hby at_122) (v := (2 : Int32)) rfl rfl ?_
        have O162 : Old Z n0 h158 := (O157.keep K158 all0)
        refine go_static (q := 127) X158 hx hZ hown (y := (⟨"com/example/harborspread/harborspread/DecimalsIsDigitsPinLaw", "fine", "(CIII)Z"⟩ : MethodName)) (w58 hw) (w59 hw) (w2 hw) (w60 hw) (by decide) e158 (b14_1 l Z a0 hw r_5 (2 : Int32) (1 : Int32) (2 : Int32) h158 n0 O162 (by decide) (by decide)) (argsL := [(.int r_5), (.int (2 : Int32)), (.int (1 : Int32)), (.int (2 : Int32))]) (rest := []) rfl (lenOf pd_16 rfl) rfl (by rw [hml]; rfl) (W := 0) (Nat.le_of_eq rfl) (hb hby at_124) (by decide) (by decide) (by decide) (by decide) rfl ?_
        rintro T163 h163 _ L163 X163 e163 ⟨rfl, M163, K163⟩
        have N163 := Fr.app N158 M163
        refine go_ifN (q := 130) X163 hx (hb hby at_127) (XT.i0_eq_f (by decide)) rfl ?_
        refine go_iload (q := 132) X163 hx (hb hby at_130) (v := r_7) rfl rfl ?_
        refine go_iconst (q := 133) X163 hx (hb hby at_132) (v := (3 : Int32)) (by decide) rfl ?_
        refine go_iload (q := 135) X163 hx (hb hby at_133) (v := (1 : Int32)) rfl rfl ?_
        refine go_iload (q := 137) X163 hx (hb hby at_135) (v := (2 : Int32)) rfl rfl ?_
        have O164 : Old Z n0 h163 := (O162.keep K163 all0)
        refine go_static (q := 140) X163 hx hZ hown (y := (⟨"com/example/harborspread/harborspread/DecimalsIsDigitsPinLaw", "fine", "(CIII)Z"⟩ : MethodName)) (w58 hw) (w59 hw) (w2 hw) (w60 hw) (by decide) e163 (b14_1 l Z a0 hw r_7 (3 : Int32) (1 : Int32) (2 : Int32) h163 n0 O164 (by decide) (by decide)) (argsL := [(.int r_7), (.int (3 : Int32)), (.int (1 : Int32)), (.int (2 : Int32))]) (rest := []) rfl (lenOf pd_16 rfl) rfl (by rw [hml]; rfl) (W := 0) (Nat.le_of_eq rfl) (hb hby at_137) (by decide) (by decide) (by decide) (by decide) rfl ?_
        rintro T165 h165 _ L165 X165 e165 ⟨rfl, M165, K165⟩
        have N165 := Fr.app N163 M165
        refine go_ifN (q := 143) X165 hx (hb hby at_140) (XT.i0_eq_f (by decide)) rfl ?_
        refine go_iconst (q := 144) X165 hx (hb hby at_143) (v := (1 : Int32)) (by decide) rfl ?_
        refine go_goto (q := 148) X165 hx (hb hby at_144) (by decide) (by decide) ?_
        refine go_istore (q := 150) X165 hx (hb hby at_148) (l' := #[.val (.int p0), .val (.int p1), .val (.int p2), .val (.int p3), .val (.int p4), .val (.int r_1), .val (.int r_3), .val (.int r_5), .val (.int r_7), .val (.ref ob8), .val (.ref ob14), .val (.int (1 : Int32)), .val (.int (2 : Int32)), .val (.int (1 : Int32))]) rfl rfl ?_
        refine go_aload (q := 152) X165 hx (hb hby at_150) (v := (.ref ob14)) rfl rfl rfl ?_
        refine go_iload (q := 154) X165 hx (hb hby at_152) (v := (1 : Int32)) rfl rfl ?_
        refine go_iload (q := 156) X165 hx (hb hby at_154) (v := (2 : Int32)) rfl rfl ?_
        have f166 : Str4 Z h165 ob14 r_1 r_3 r_5 r_7 := (Str4.keep (Str4.keep (Str4.keep (Str4.keep p20_0 K156) K158) K163) K165)
        have f167 : Exa Z h165 ob14 "java/lang/String" := (((f160.keep K158).keep K163).keep K165)
        have O168 : Old Z n0 h165 := (O164.keep K165 all0)
        refine go_static (q := 159) X165 hx hZ hown (y := (⟨"com/example/harborspread/harborspread/Decimals", "isDigits", "(Ljava/lang/String;II)Z"⟩ : MethodName)) (w35 hw) (w36 hw) (w37 hw) (w38 hw) (by decide) e165 (b8_5 l Z a0 hw ob14 zc sf rsf r_1 r_3 r_5 r_7 h165 n0 O168 f166 S_0 hr_1 S_2 S_3 S_4 S_5 p1_0 p3_0 p5_0 p7_0 f167) (argsL := [(.ref ob14), (.int (1 : Int32)), (.int (2 : Int32))]) (rest := []) rfl (lenOf pd_15 rfl) rfl (by rw [hml]; rfl) (W := 0) (Nat.le_of_eq rfl) (hb hby at_156) (by decide) (by decide) (by decide) (by decide) rfl ?_
        have f170 : Arv Z h165 ob8 k8 .char (4 : Int32) [(.int r_1), (.int r_3), (.int r_5), (.int r_7)] (.int (0 : Int32)) := (((f159.keep K158 nin0).keep K163 nin0).keep K165 nin0)
        rintro T169 h169 _ L169 X169 e169 ⟨r_169, rfl, M169, K169, p169_0⟩
        have N169 := Fr.app N165 M169
        refine go_iload (q := 161) X169 hx (hb hby at_159) (v := (1 : Int32)) rfl rfl ?_
        refine go_icmpN (q := 164) X169 hx (hb hby at_161) (XT.ii_ne_f (by rcases p169_0 with ⟨q, q2⟩ | ⟨q, q2⟩ <;> first | exact q | (exact absurd d161 q2))) rfl ?_
        refine go_iconst (q := 165) X169 hx (hb hby at_164) (v := (1 : Int32)) (by decide) rfl ?_
        refine go_goto (q := 169) X169 hx (hb hby at_165) (by decide) (by decide) ?_
        refine go_retI X169 hx hret hlk e169 (hb hby at_169) (by simp) (by decide) (by decide) (by decide) ?_
        exact ⟨(by first | rfl | simp [d161] | simp_all), N169, (((((((((((((((((Keep.refl h0 []).trans K1 all0).trans K3 all0).trans K5 all0).trans K7 all0).ext E8).wr W10 (Or.inr sn8)).wr W11 (Or.inr sn8)).wr W12 (Or.inr sn8)).wr W13 (Or.inr sn8)).ext E14).trans K20 (allS (P := fun x => x ∈ [] ∨ h0.size ≤ x) (Or.inr sn14) all0)).trans K156 all0).trans K158 all0).trans K163 all0).trans K165 all0).trans K169 all0)⟩
      · refine go_ifY (q := 147) X158 hx (hb hby at_114) (XT.i0_eq_t (by decide)) (by decide) (by decide) ?_
        refine go_iconst (q := 148) X158 hx (hb hby at_147) (v := (0 : Int32)) (by decide) rfl ?_
        refine go_istore (q := 150) X158 hx (hb hby at_148) (l' := #[.val (.int p0), .val (.int p1), .val (.int p2), .val (.int p3), .val (.int p4), .val (.int r_1), .val (.int r_3), .val (.int r_5), .val (.int r_7), .val (.ref ob8), .val (.ref ob14), .val (.int (1 : Int32)), .val (.int (2 : Int32)), .val (.int (0 : Int32))]) rfl rfl ?_
        refine go_aload (q := 152) X158 hx (hb hby at_150) (v := (.ref ob14)) rfl rfl rfl ?_
        refine go_iload (q := 154) X158 hx (hb hby at_152) (v := (1 : Int32)) rfl rfl ?_
        refine go_iload (q := 156) X158 hx (hb hby at_154) (v := (2 : Int32)) rfl rfl ?_
        have f171 : Str4 Z h158 ob14 r_1 r_3 r_5 r_7 := (Str4.keep (Str4.keep p20_0 K156) K158)
        have f172 : Exa Z h158 ob14 "java/lang/String" := (f160.keep K158)
        have O173 : Old Z n0 h158 := (O157.keep K158 all0)
        refine go_static (q := 159) X158 hx hZ hown (y := (⟨"com/example/harborspread/harborspread/Decimals", "isDigits", "(Ljava/lang/String;II)Z"⟩ : MethodName)) (w35 hw) (w36 hw) (w37 hw) (w38 hw) (by decide) e158 (b8_5 l Z a0 hw ob14 zc sf rsf r_1 r_3 r_5 r_7 h158 n0 O173 f171 S_0 hr_1 S_2 S_3 S_4 S_5 p1_0 p3_0 p5_0 p7_0 f172) (argsL := [(.ref ob14), (.int (1 : Int32)), (.int (2 : Int32))]) (rest := []) rfl (lenOf pd_15 rfl) rfl (by rw [hml]; rfl) (W := 0) (Nat.le_of_eq rfl) (hb hby at_156) (by decide) (by decide) (by decide) (by decide) rfl ?_
        have f175 : Arv Z h158 ob8 k8 .char (4 : Int32) [(.int r_1), (.int r_3), (.int r_5), (.int r_7)] (.int (0 : Int32)) := (f159.keep K158 nin0)
        rintro T174 h174 _ L174 X174 e174 ⟨r_174, rfl, M174, K174, p174_0⟩
        have N174 := Fr.app N158 M174
        refine go_iload (q := 161) X174 hx (hb hby at_159) (v := (0 : Int32)) rfl rfl ?_
        refine go_icmpN (q := 164) X174 hx (hb hby at_161) (XT.ii_ne_f (by rcases p174_0 with ⟨q, q2⟩ | ⟨q, q2⟩ <;> first | exact q | (exact absurd (q2) d161))) rfl ?_
        refine go_iconst (q := 165) X174 hx (hb hby at_164) (v := (1 : Int32)) (by decide) rfl ?_
        refine go_goto (q := 169) X174 hx (hb hby at_165) (by decide) (by decide) ?_
        refine go_retI X174 hx hret hlk e174 (hb hby at_169) (by simp) (by decide) (by decide) (by decide) ?_
        exact ⟨(by first | rfl | simp [d161] | simp_all), N174, (((((((((((((((Keep.refl h0 []).trans K1 all0).trans K3 all0).trans K5 all0).trans K7 all0).ext E8).wr W10 (Or.inr sn8)).wr W11 (Or.inr sn8)).wr W12 (Or.inr sn8)).wr W13 (Or.inr sn8)).ext E14).trans K20 (allS (P := fun x => x ∈ [] ∨ h0.size ≤ x) (Or.inr sn14) all0)).trans K156 all0).trans K158 all0).trans K174 all0)⟩
    · rw [c82]
      refine go_istore (q := 84) X20 hx (hb hby at_82) (l' := #[.val (.int p0), .val (.int p1), .val (.int p2), .val (.int p3), .val (.int p4), .val (.int r_1), .val (.int r_3), .val (.int r_5), .val (.int r_7), .val (.ref ob8), .val (.ref ob14), .val (.int (1 : Int32)), .val (.int (3 : Int32)), .unset]) rfl rfl ?_
      refine go_iload (q := 86) X20 hx (hb hby at_84) (v := (1 : Int32)) rfl rfl ?_
      refine go_iload (q := 88) X20 hx (hb hby at_86) (v := (3 : Int32)) rfl rfl ?_
      refine go_icmpN (q := 91) X20 hx (hb hby at_88) (XT.ii_ge_f (by decide)) rfl ?_
      refine go_iload (q := 93) X20 hx (hb hby at_91) (v := r_1) rfl rfl ?_
      refine go_iconst (q := 94) X20 hx (hb hby at_93) (v := (0 : Int32)) (by decide) rfl ?_
      refine go_iload (q := 96) X20 hx (hb hby at_94) (v := (1 : Int32)) rfl rfl ?_
      refine go_iload (q := 98) X20 hx (hb hby at_96) (v := (3 : Int32)) rfl rfl ?_
      have O176 : Old Z n0 h20 := (O19.keep K20 (allS fr14 all0))
      refine go_static (q := 101) X20 hx hZ hown (y := (⟨"com/example/harborspread/harborspread/DecimalsIsDigitsPinLaw", "fine", "(CIII)Z"⟩ : MethodName)) (w58 hw) (w59 hw) (w2 hw) (w60 hw) (by decide) e20 (b14 l Z a0 hw r_1 (0 : Int32) (1 : Int32) (3 : Int32) h20 n0 O176 (by decide)) (argsL := [(.int r_1), (.int (0 : Int32)), (.int (1 : Int32)), (.int (3 : Int32))]) (rest := []) rfl (lenOf pd_16 rfl) rfl (by rw [hml]; rfl) (W := 0) (Nat.le_of_eq rfl) (hb hby at_98) (by decide) (by decide) (by decide) (by decide) rfl ?_
      rintro T177 h177 _ L177 X177 e177 ⟨rfl, M177, K177⟩
      have N177 := Fr.app N20 M177
      refine go_ifN (q := 104) X177 hx (hb hby at_101) (XT.i0_eq_f (by decide)) rfl ?_
      refine go_iload (q := 106) X177 hx (hb hby at_104) (v := r_3) rfl rfl ?_
      refine go_iconst (q := 107) X177 hx (hb hby at_106) (v := (1 : Int32)) (by decide) rfl ?_
      refine go_iload (q := 109) X177 hx (hb hby at_107) (v := (1 : Int32)) rfl rfl ?_
      refine go_iload (q := 111) X177 hx (hb hby at_109) (v := (3 : Int32)) rfl rfl ?_
      have O178 : Old Z n0 h177 := (O176.keep K177 all0)
      refine go_static (q := 114) X177 hx hZ hown (y := (⟨"com/example/harborspread/harborspread/DecimalsIsDigitsPinLaw", "fine", "(CIII)Z"⟩ : MethodName)) (w58 hw) (w59 hw) (w2 hw) (w60 hw) (by decide) e177 (b14_2 l Z a0 hw r_3 (1 : Int32) (1 : Int32) (3 : Int32) h177 n0 O178 (by decide) (by decide)) (argsL := [(.int r_3), (.int (1 : Int32)), (.int (1 : Int32)), (.int (3 : Int32))]) (rest := []) rfl (lenOf pd_16 rfl) rfl (by rw [hml]; rfl) (W := 0) (Nat.le_of_eq rfl) (hb hby at_111) (by decide) (by decide) (by decide) (by decide) rfl ?_
      have f180 : Arv Z h177 ob8 k8 .char (4 : Int32) [(.int r_1), (.int r_3), (.int r_5), (.int r_7)] (.int (0 : Int32)) := ((f18.keep K20 (ninS ne_ob8_ob14 nin0)).keep K177 nin0)
      have f181 : Exa Z h177 ob14 "java/lang/String" := (p20_1.keep K177)
      rintro T179 h179 _ L179 X179 e179 ⟨r_179, rfl, M179, K179, p179_0⟩
      have N179 := Fr.app N177 M179
      rcases p179_0 with ⟨rfl, d182⟩ | ⟨rfl, d182⟩
      · refine go_ifN (q := 117) X179 hx (hb hby at_114) (XT.i0_eq_f (by decide)) rfl ?_
        refine go_iload (q := 119) X179 hx (hb hby at_117) (v := r_5) rfl rfl ?_
        refine go_iconst (q := 120) X179 hx (hb hby at_119) (v := (2 : Int32)) (by decide) rfl ?_
        refine go_iload (q := 122) X179 hx (hb hby at_120) (v := (1 : Int32)) rfl rfl ?_
        refine go_iload (q := 124) X179 hx (hb hby at_122) (v := (3 : Int32)) rfl rfl ?_
        have O183 : Old Z n0 h179 := (O178.keep K179 all0)
        refine go_static (q := 127) X179 hx hZ hown (y := (⟨"com/example/harborspread/harborspread/DecimalsIsDigitsPinLaw", "fine", "(CIII)Z"⟩ : MethodName)) (w58 hw) (w59 hw) (w2 hw) (w60 hw) (by decide) e179 (b14_2 l Z a0 hw r_5 (2 : Int32) (1 : Int32) (3 : Int32) h179 n0 O183 (by decide) (by decide)) (argsL := [(.int r_5), (.int (2 : Int32)), (.int (1 : Int32)), (.int (3 : Int32))]) (rest := []) rfl (lenOf pd_16 rfl) rfl (by rw [hml]; rfl) (W := 0) (Nat.le_of_eq rfl) (hb hby at_124) (by decide) (by decide) (by decide) (by decide) rfl ?_
        have f185 : Arv Z h179 ob8 k8 .char (4 : Int32) [(.int r_1), (.int r_3), (.int r_5), (.int r_7)] (.int (0 : Int32)) := (f180.keep K179 nin0)
        have f186 : Exa Z h179 ob14 "java/lang/String" := (f181.keep K179)
        rintro T184 h184 _ L184 X184 e184 ⟨r_184, rfl, M184, K184, p184_0⟩
        have N184 := Fr.app N179 M184
        rcases p184_0 with ⟨rfl, d187⟩ | ⟨rfl, d187⟩
        · refine go_ifN (q := 130) X184 hx (hb hby at_127) (XT.i0_eq_f (by decide)) rfl ?_
          refine go_iload (q := 132) X184 hx (hb hby at_130) (v := r_7) rfl rfl ?_
          refine go_iconst (q := 133) X184 hx (hb hby at_132) (v := (3 : Int32)) (by decide) rfl ?_
          refine go_iload (q := 135) X184 hx (hb hby at_133) (v := (1 : Int32)) rfl rfl ?_
          refine go_iload (q := 137) X184 hx (hb hby at_135) (v := (3 : Int32)) rfl rfl ?_
          have O188 : Old Z n0 h184 := (O183.keep K184 all0)
          refine go_static (q := 140) X184 hx hZ hown (y := (⟨"com/example/harborspread/harborspread/DecimalsIsDigitsPinLaw", "fine", "(CIII)Z"⟩ : MethodName)) (w58 hw) (w59 hw) (w2 hw) (w60 hw) (by decide) e184 (b14_1 l Z a0 hw r_7 (3 : Int32) (1 : Int32) (3 : Int32) h184 n0 O188 (by decide) (by decide)) (argsL := [(.int r_7), (.int (3 : Int32)), (.int (1 : Int32)), (.int (3 : Int32))]) (rest := []) rfl (lenOf pd_16 rfl) rfl (by rw [hml]; rfl) (W := 0) (Nat.le_of_eq rfl) (hb hby at_137) (by decide) (by decide) (by decide) (by decide) rfl ?_
          rintro T189 h189 _ L189 X189 e189 ⟨rfl, M189, K189⟩
          have N189 := Fr.app N184 M189
          refine go_ifN (q := 143) X189 hx (hb hby at_140) (XT.i0_eq_f (by decide)) rfl ?_
          refine go_iconst (q := 144) X189 hx (hb hby at_143) (v := (1 : Int32)) (by decide) rfl ?_
          refine go_goto (q := 148) X189 hx (hb hby at_144) (by decide) (by decide) ?_
          refine go_istore (q := 150) X189 hx (hb hby at_148) (l' := #[.val (.int p0), .val (.int p1), .val (.int p2), .val (.int p3), .val (.int p4), .val (.int r_1), .val (.int r_3), .val (.int r_5), .val (.int r_7), .val (.ref ob8), .val (.ref ob14), .val (.int (1 : Int32)), .val (.int (3 : Int32)), .val (.int (1 : Int32))]) rfl rfl ?_
          refine go_aload (q := 152) X189 hx (hb hby at_150) (v := (.ref ob14)) rfl rfl rfl ?_
          refine go_iload (q := 154) X189 hx (hb hby at_152) (v := (1 : Int32)) rfl rfl ?_
          refine go_iload (q := 156) X189 hx (hb hby at_154) (v := (3 : Int32)) rfl rfl ?_
          have f190 : Str4 Z h189 ob14 r_1 r_3 r_5 r_7 := (Str4.keep (Str4.keep (Str4.keep (Str4.keep p20_0 K177) K179) K184) K189)
          have f191 : Exa Z h189 ob14 "java/lang/String" := ((f186.keep K184).keep K189)
          have O192 : Old Z n0 h189 := (O188.keep K189 all0)
          refine go_static (q := 159) X189 hx hZ hown (y := (⟨"com/example/harborspread/harborspread/Decimals", "isDigits", "(Ljava/lang/String;II)Z"⟩ : MethodName)) (w35 hw) (w36 hw) (w37 hw) (w38 hw) (by decide) e189 (b8_6 l Z a0 hw ob14 zc sf rsf r_1 r_3 r_5 r_7 h189 n0 O192 f190 S_0 hr_1 S_2 S_3 S_4 S_5 p1_0 p3_0 p5_0 p7_0 f191) (argsL := [(.ref ob14), (.int (1 : Int32)), (.int (3 : Int32))]) (rest := []) rfl (lenOf pd_15 rfl) rfl (by rw [hml]; rfl) (W := 0) (Nat.le_of_eq rfl) (hb hby at_156) (by decide) (by decide) (by decide) (by decide) rfl ?_
          have f194 : Arv Z h189 ob8 k8 .char (4 : Int32) [(.int r_1), (.int r_3), (.int r_5), (.int r_7)] (.int (0 : Int32)) := ((f185.keep K184 nin0).keep K189 nin0)
          rintro T193 h193 _ L193 X193 e193 ⟨r_193, rfl, M193, K193, p193_0⟩
          have N193 := Fr.app N189 M193
          refine go_iload (q := 161) X193 hx (hb hby at_159) (v := (1 : Int32)) rfl rfl ?_
          refine go_icmpN (q := 164) X193 hx (hb hby at_161) (XT.ii_ne_f (by rcases p193_0 with ⟨q, q2⟩ | ⟨q, q2⟩ <;> first | exact q | (exact absurd ⟨d182, d187⟩ q2))) rfl ?_
          refine go_iconst (q := 165) X193 hx (hb hby at_164) (v := (1 : Int32)) (by decide) rfl ?_
          refine go_goto (q := 169) X193 hx (hb hby at_165) (by decide) (by decide) ?_
          refine go_retI X193 hx hret hlk e193 (hb hby at_169) (by simp) (by decide) (by decide) (by decide) ?_
          exact ⟨(by first | rfl | simp [d182, d187] | simp_all), N193, (((((((((((((((((Keep.refl h0 []).trans K1 all0).trans K3 all0).trans K5 all0).trans K7 all0).ext E8).wr W10 (Or.inr sn8)).wr W11 (Or.inr sn8)).wr W12 (Or.inr sn8)).wr W13 (Or.inr sn8)).ext E14).trans K20 (allS (P := fun x => x ∈ [] ∨ h0.size ≤ x) (Or.inr sn14) all0)).trans K177 all0).trans K179 all0).trans K184 all0).trans K189 all0).trans K193 all0)⟩
        · refine go_ifY (q := 147) X184 hx (hb hby at_127) (XT.i0_eq_t (by decide)) (by decide) (by decide) ?_
          refine go_iconst (q := 148) X184 hx (hb hby at_147) (v := (0 : Int32)) (by decide) rfl ?_
          refine go_istore (q := 150) X184 hx (hb hby at_148) (l' := #[.val (.int p0), .val (.int p1), .val (.int p2), .val (.int p3), .val (.int p4), .val (.int r_1), .val (.int r_3), .val (.int r_5), .val (.int r_7), .val (.ref ob8), .val (.ref ob14), .val (.int (1 : Int32)), .val (.int (3 : Int32)), .val (.int (0 : Int32))]) rfl rfl ?_
          refine go_aload (q := 152) X184 hx (hb hby at_150) (v := (.ref ob14)) rfl rfl rfl ?_
          refine go_iload (q := 154) X184 hx (hb hby at_152) (v := (1 : Int32)) rfl rfl ?_
          refine go_iload (q := 156) X184 hx (hb hby at_154) (v := (3 : Int32)) rfl rfl ?_
          have f195 : Str4 Z h184 ob14 r_1 r_3 r_5 r_7 := (Str4.keep (Str4.keep (Str4.keep p20_0 K177) K179) K184)
          have f196 : Exa Z h184 ob14 "java/lang/String" := (f186.keep K184)
          have O197 : Old Z n0 h184 := (O183.keep K184 all0)
          refine go_static (q := 159) X184 hx hZ hown (y := (⟨"com/example/harborspread/harborspread/Decimals", "isDigits", "(Ljava/lang/String;II)Z"⟩ : MethodName)) (w35 hw) (w36 hw) (w37 hw) (w38 hw) (by decide) e184 (b8_6 l Z a0 hw ob14 zc sf rsf r_1 r_3 r_5 r_7 h184 n0 O197 f195 S_0 hr_1 S_2 S_3 S_4 S_5 p1_0 p3_0 p5_0 p7_0 f196) (argsL := [(.ref ob14), (.int (1 : Int32)), (.int (3 : Int32))]) (rest := []) rfl (lenOf pd_15 rfl) rfl (by rw [hml]; rfl) (W := 0) (Nat.le_of_eq rfl) (hb hby at_156) (by decide) (by decide) (by decide) (by decide) rfl ?_
          have f199 : Arv Z h184 ob8 k8 .char (4 : Int32) [(.int r_1), (.int r_3), (.int r_5), (.int r_7)] (.int (0 : Int32)) := (f185.keep K184 nin0)
          rintro T198 h198 _ L198 X198 e198 ⟨r_198, rfl, M198, K198, p198_0⟩
          have N198 := Fr.app N184 M198
          refine go_iload (q := 161) X198 hx (hb hby at_159) (v := (0 : Int32)) rfl rfl ?_
          refine go_icmpN (q := 164) X198 hx (hb hby at_161) (XT.ii_ne_f (by rcases p198_0 with ⟨q, q2⟩ | ⟨q, q2⟩ <;> first | exact q | (exact absurd (q2.2) d187))) rfl ?_
          refine go_iconst (q := 165) X198 hx (hb hby at_164) (v := (1 : Int32)) (by decide) rfl ?_
          refine go_goto (q := 169) X198 hx (hb hby at_165) (by decide) (by decide) ?_
          refine go_retI X198 hx hret hlk e198 (hb hby at_169) (by simp) (by decide) (by decide) (by decide) ?_
          exact ⟨(by first | rfl | simp [d182, d187] | simp_all), N198, ((((((((((((((((Keep.refl h0 []).trans K1 all0).trans K3 all0).trans K5 all0).trans K7 all0).ext E8).wr W10 (Or.inr sn8)).wr W11 (Or.inr sn8)).wr W12 (Or.inr sn8)).wr W13 (Or.inr sn8)).ext E14).trans K20 (allS (P := fun x => x ∈ [] ∨ h0.size ≤ x) (Or.inr sn14) all0)).trans K177 all0).trans K179 all0).trans K184 all0).trans K198 all0)⟩
      · refine go_ifY (q := 147) X179 hx (hb hby at_114) (XT.i0_eq_t (by decide)) (by decide) (by decide) ?_
        refine go_iconst (q := 148) X179 hx (hb hby at_147) (v := (0 : Int32)) (by decide) rfl ?_
        refine go_istore (q := 150) X179 hx (hb hby at_148) (l' := #[.val (.int p0), .val (.int p1), .val (.int p2), .val (.int p3), .val (.int p4), .val (.int r_1), .val (.int r_3), .val (.int r_5), .val (.int r_7), .val (.ref ob8), .val (.ref ob14), .val (.int (1 : Int32)), .val (.int (3 : Int32)), .val (.int (0 : Int32))]) rfl rfl ?_
        refine go_aload (q := 152) X179 hx (hb hby at_150) (v := (.ref ob14)) rfl rfl rfl ?_
        refine go_iload (q := 154) X179 hx (hb hby at_152) (v := (1 : Int32)) rfl rfl ?_
        refine go_iload (q := 156) X179 hx (hb hby at_154) (v := (3 : Int32)) rfl rfl ?_
        have f200 : Str4 Z h179 ob14 r_1 r_3 r_5 r_7 := (Str4.keep (Str4.keep p20_0 K177) K179)
        have f201 : Exa Z h179 ob14 "java/lang/String" := (f181.keep K179)
        have O202 : Old Z n0 h179 := (O178.keep K179 all0)
        refine go_static (q := 159) X179 hx hZ hown (y := (⟨"com/example/harborspread/harborspread/Decimals", "isDigits", "(Ljava/lang/String;II)Z"⟩ : MethodName)) (w35 hw) (w36 hw) (w37 hw) (w38 hw) (by decide) e179 (b8_6 l Z a0 hw ob14 zc sf rsf r_1 r_3 r_5 r_7 h179 n0 O202 f200 S_0 hr_1 S_2 S_3 S_4 S_5 p1_0 p3_0 p5_0 p7_0 f201) (argsL := [(.ref ob14), (.int (1 : Int32)), (.int (3 : Int32))]) (rest := []) rfl (lenOf pd_15 rfl) rfl (by rw [hml]; rfl) (W := 0) (Nat.le_of_eq rfl) (hb hby at_156) (by decide) (by decide) (by decide) (by decide) rfl ?_
        have f204 : Arv Z h179 ob8 k8 .char (4 : Int32) [(.int r_1), (.int r_3), (.int r_5), (.int r_7)] (.int (0 : Int32)) := (f180.keep K179 nin0)
        rintro T203 h203 _ L203 X203 e203 ⟨r_203, rfl, M203, K203, p203_0⟩
        have N203 := Fr.app N179 M203
        refine go_iload (q := 161) X203 hx (hb hby at_159) (v := (0 : Int32)) rfl rfl ?_
        refine go_icmpN (q := 164) X203 hx (hb hby at_161) (XT.ii_ne_f (by rcases p203_0 with ⟨q, q2⟩ | ⟨q, q2⟩ <;> first | exact q | (exact absurd (q2.1) d182))) rfl ?_
        refine go_iconst (q := 165) X203 hx (hb hby at_164) (v := (1 : Int32)) (by decide) rfl ?_
        refine go_goto (q := 169) X203 hx (hb hby at_165) (by decide) (by decide) ?_
        refine go_retI X203 hx hret hlk e203 (hb hby at_169) (by simp) (by decide) (by decide) (by decide) ?_
        exact ⟨(by first | rfl | simp [d182] | simp_all), N203, (((((((((((((((Keep.refl h0 []).trans K1 all0).trans K3 all0).trans K5 all0).trans K7 all0).ext E8).wr W10 (Or.inr sn8)).wr W11 (Or.inr sn8)).wr W12 (Or.inr sn8)).wr W13 (Or.inr sn8)).ext E14).trans K20 (allS (P := fun x => x ∈ [] ∨ h0.size ≤ x) (Or.inr sn14) all0)).trans K177 all0).trans K179 all0).trans K203 all0)⟩
    · rw [c82]
      refine go_istore (q := 84) X20 hx (hb hby at_82) (l' := #[.val (.int p0), .val (.int p1), .val (.int p2), .val (.int p3), .val (.int p4), .val (.int r_1), .val (.int r_3), .val (.int r_5), .val (.int r_7), .val (.ref ob8), .val (.ref ob14), .val (.int (1 : Int32)), .val (.int (4 : Int32)), .unset]) rfl rfl ?_
      refine go_iload (q := 86) X20 hx (hb hby at_84) (v := (1 : Int32)) rfl rfl ?_
      refine go_iload (q := 88) X20 hx (hb hby at_86) (v := (4 : Int32)) rfl rfl ?_
      refine go_icmpN (q := 91) X20 hx (hb hby at_88) (XT.ii_ge_f (by decide)) rfl ?_
      refine go_iload (q := 93) X20 hx (hb hby at_91) (v := r_1) rfl rfl ?_
      refine go_iconst (q := 94) X20 hx (hb hby at_93) (v := (0 : Int32)) (by decide) rfl ?_
      refine go_iload (q := 96) X20 hx (hb hby at_94) (v := (1 : Int32)) rfl rfl ?_
      refine go_iload (q := 98) X20 hx (hb hby at_96) (v := (4 : Int32)) rfl rfl ?_
      have O205 : Old Z n0 h20 := (O19.keep K20 (allS fr14 all0))
      refine go_static (q := 101) X20 hx hZ hown (y := (⟨"com/example/harborspread/harborspread/DecimalsIsDigitsPinLaw", "fine", "(CIII)Z"⟩ : MethodName)) (w58 hw) (w59 hw) (w2 hw) (w60 hw) (by decide) e20 (b14 l Z a0 hw r_1 (0 : Int32) (1 : Int32) (4 : Int32) h20 n0 O205 (by decide)) (argsL := [(.int r_1), (.int (0 : Int32)), (.int (1 : Int32)), (.int (4 : Int32))]) (rest := []) rfl (lenOf pd_16 rfl) rfl (by rw [hml]; rfl) (W := 0) (Nat.le_of_eq rfl) (hb hby at_98) (by decide) (by decide) (by decide) (by decide) rfl ?_
      rintro T206 h206 _ L206 X206 e206 ⟨rfl, M206, K206⟩
      have N206 := Fr.app N20 M206
      refine go_ifN (q := 104) X206 hx (hb hby at_101) (XT.i0_eq_f (by decide)) rfl ?_
      refine go_iload (q := 106) X206 hx (hb hby at_104) (v := r_3) rfl rfl ?_
      refine go_iconst (q := 107) X206 hx (hb hby at_106) (v := (1 : Int32)) (by decide) rfl ?_
      refine go_iload (q := 109) X206 hx (hb hby at_107) (v := (1 : Int32)) rfl rfl ?_
      refine go_iload (q := 111) X206 hx (hb hby at_109) (v := (4 : Int32)) rfl rfl ?_
      have O207 : Old Z n0 h206 := (O205.keep K206 all0)
      refine go_static (q := 114) X206 hx hZ hown (y := (⟨"com/example/harborspread/harborspread/DecimalsIsDigitsPinLaw", "fine", "(CIII)Z"⟩ : MethodName)) (w58 hw) (w59 hw) (w2 hw) (w60 hw) (by decide) e206 (b14_2 l Z a0 hw r_3 (1 : Int32) (1 : Int32) (4 : Int32) h206 n0 O207 (by decide) (by decide)) (argsL := [(.int r_3), (.int (1 : Int32)), (.int (1 : Int32)), (.int (4 : Int32))]) (rest := []) rfl (lenOf pd_16 rfl) rfl (by rw [hml]; rfl) (W := 0) (Nat.le_of_eq rfl) (hb hby at_111) (by decide) (by decide) (by decide) (by decide) rfl ?_
      have f209 : Arv Z h206 ob8 k8 .char (4 : Int32) [(.int r_1), (.int r_3), (.int r_5), (.int r_7)] (.int (0 : Int32)) := ((f18.keep K20 (ninS ne_ob8_ob14 nin0)).keep K206 nin0)
      have f210 : Exa Z h206 ob14 "java/lang/String" := (p20_1.keep K206)
      rintro T208 h208 _ L208 X208 e208 ⟨r_208, rfl, M208, K208, p208_0⟩
      have N208 := Fr.app N206 M208
      rcases p208_0 with ⟨rfl, d211⟩ | ⟨rfl, d211⟩
      · refine go_ifN (q := 117) X208 hx (hb hby at_114) (XT.i0_eq_f (by decide)) rfl ?_
        refine go_iload (q := 119) X208 hx (hb hby at_117) (v := r_5) rfl rfl ?_
        refine go_iconst (q := 120) X208 hx (hb hby at_119) (v := (2 : Int32)) (by decide) rfl ?_
        refine go_iload (q := 122) X208 hx (hb hby at_120) (v := (1 : Int32)) rfl rfl ?_
        refine go_iload (q := 124) X208 hx (hb hby at_122) (v := (4 : Int32)) rfl rfl ?_
        have O212 : Old Z n0 h208 := (O207.keep K208 all0)
        refine go_static (q := 127) X208 hx hZ hown (y := (⟨"com/example/harborspread/harborspread/DecimalsIsDigitsPinLaw", "fine", "(CIII)Z"⟩ : MethodName)) (w58 hw) (w59 hw) (w2 hw) (w60 hw) (by decide) e208 (b14_2 l Z a0 hw r_5 (2 : Int32) (1 : Int32) (4 : Int32) h208 n0 O212 (by decide) (by decide)) (argsL := [(.int r_5), (.int (2 : Int32)), (.int (1 : Int32)), (.int (4 : Int32))]) (rest := []) rfl (lenOf pd_16 rfl) rfl (by rw [hml]; rfl) (W := 0) (Nat.le_of_eq rfl) (hb hby at_124) (by decide) (by decide) (by decide) (by decide) rfl ?_
        have f214 : Arv Z h208 ob8 k8 .char (4 : Int32) [(.int r_1), (.int r_3), (.int r_5), (.int r_7)] (.int (0 : Int32)) := (f209.keep K208 nin0)
        have f215 : Exa Z h208 ob14 "java/lang/String" := (f210.keep K208)
        rintro T213 h213 _ L213 X213 e213 ⟨r_213, rfl, M213, K213, p213_0⟩
        have N213 := Fr.app N208 M213
        rcases p213_0 with ⟨rfl, d216⟩ | ⟨rfl, d216⟩
        · refine go_ifN (q := 130) X213 hx (hb hby at_127) (XT.i0_eq_f (by decide)) rfl ?_
          refine go_iload (q := 132) X213 hx (hb hby at_130) (v := r_7) rfl rfl ?_
          refine go_iconst (q := 133) X213 hx (hb hby at_132) (v := (3 : Int32)) (by decide) rfl ?_
          refine go_iload (q := 135) X213 hx (hb hby at_133) (v := (1 : Int32)) rfl rfl ?_
          refine go_iload (q := 137) X213 hx (hb hby at_135) (v := (4 : Int32)) rfl rfl ?_
          have O217 : Old Z n0 h213 := (O212.keep K213 all0)
          refine go_static (q := 140) X213 hx hZ hown (y := (⟨"com/example/harborspread/harborspread/DecimalsIsDigitsPinLaw", "fine", "(CIII)Z"⟩ : MethodName)) (w58 hw) (w59 hw) (w2 hw) (w60 hw) (by decide) e213 (b14_2 l Z a0 hw r_7 (3 : Int32) (1 : Int32) (4 : Int32) h213 n0 O217 (by decide) (by decide)) (argsL := [(.int r_7), (.int (3 : Int32)), (.int (1 : Int32)), (.int (4 : Int32))]) (rest := []) rfl (lenOf pd_16 rfl) rfl (by rw [hml]; rfl) (W := 0) (Nat.le_of_eq rfl) (hb hby at_137) (by decide) (by decide) (by decide) (by decide) rfl ?_
          have f219 : Arv Z h213 ob8 k8 .char (4 : Int32) [(.int r_1), (.int r_3), (.int r_5), (.int r_7)] (.int (0 : Int32)) := (f214.keep K213 nin0)
          have f220 : Exa Z h213 ob14 "java/lang/String" := (f215.keep K213)
          rintro T218 h218 _ L218 X218 e218 ⟨r_218, rfl, M218, K218, p218_0⟩
          have N218 := Fr.app N213 M218
          rcases p218_0 with ⟨rfl, d221⟩ | ⟨rfl, d221⟩
          · refine go_ifN (q := 143) X218 hx (hb hby at_140) (XT.i0_eq_f (by decide)) rfl ?_
            refine go_iconst (q := 144) X218 hx (hb hby at_143) (v := (1 : Int32)) (by decide) rfl ?_
            refine go_goto (q := 148) X218 hx (hb hby at_144) (by decide) (by decide) ?_
            refine go_istore (q := 150) X218 hx (hb hby at_148) (l' := #[.val (.int p0), .val (.int p1), .val (.int p2), .val (.int p3), .val (.int p4), .val (.int r_1), .val (.int r_3), .val (.int r_5), .val (.int r_7), .val (.ref ob8), .val (.ref ob14), .val (.int (1 : Int32)), .val (.int (4 : Int32)), .val (.int (1 : Int32))]) rfl rfl ?_
            refine go_aload (q := 152) X218 hx (hb hby at_150) (v := (.ref ob14)) rfl rfl rfl ?_
            refine go_iload (q := 154) X218 hx (hb hby at_152) (v := (1 : Int32)) rfl rfl ?_
            refine go_iload (q := 156) X218 hx (hb hby at_154) (v := (4 : Int32)) rfl rfl ?_
            have f222 : Str4 Z h218 ob14 r_1 r_3 r_5 r_7 := (Str4.keep (Str4.keep (Str4.keep (Str4.keep p20_0 K206) K208) K213) K218)
            have f223 : Exa Z h218 ob14 "java/lang/String" := (f220.keep K218)
            have O224 : Old Z n0 h218 := (O217.keep K218 all0)
            refine go_static (q := 159) X218 hx hZ hown (y := (⟨"com/example/harborspread/harborspread/Decimals", "isDigits", "(Ljava/lang/String;II)Z"⟩ : MethodName)) (w35 hw) (w36 hw) (w37 hw) (w38 hw) (by decide) e218 (b8_7 l Z a0 hw ob14 zc sf rsf r_1 r_3 r_5 r_7 h218 n0 O224 f222 S_0 hr_1 S_2 S_3 S_4 S_5 p1_0 p3_0 p5_0 p7_0 f223) (argsL := [(.ref ob14), (.int (1 : Int32)), (.int (4 : Int32))]) (rest := []) rfl (lenOf pd_15 rfl) rfl (by rw [hml]; rfl) (W := 0) (Nat.le_of_eq rfl) (hb hby at_156) (by decide) (by decide) (by decide) (by decide) rfl ?_
            have f226 : Arv Z h218 ob8 k8 .char (4 : Int32) [(.int r_1), (.int r_3), (.int r_5), (.int r_7)] (.int (0 : Int32)) := (f219.keep K218 nin0)
            rintro T225 h225 _ L225 X225 e225 ⟨r_225, rfl, M225, K225, p225_0⟩
            have N225 := Fr.app N218 M225
            refine go_iload (q := 161) X225 hx (hb hby at_159) (v := (1 : Int32)) rfl rfl ?_
            refine go_icmpN (q := 164) X225 hx (hb hby at_161) (XT.ii_ne_f (by rcases p225_0 with ⟨q, q2⟩ | ⟨q, q2⟩ <;> first | exact q | (exact absurd ⟨d211, d216, d221⟩ q2))) rfl ?_
            refine go_iconst (q := 165) X225 hx (hb hby at_164) (v := (1 : Int32)) (by decide) rfl ?_
            refine go_goto (q := 169) X225 hx (hb hby at_165) (by decide) (by decide) ?_
            refine go_retI X225 hx hret hlk e225 (hb hby at_169) (by simp) (by decide) (by decide) (by decide) ?_
            exact ⟨(by first | rfl | simp [d211, d216, d221] | simp_all), N225, (((((((((((((((((Keep.refl h0 []).trans K1 all0).trans K3 all0).trans K5 all0).trans K7 all0).ext E8).wr W10 (Or.inr sn8)).wr W11 (Or.inr sn8)).wr W12 (Or.inr sn8)).wr W13 (Or.inr sn8)).ext E14).trans K20 (allS (P := fun x => x ∈ [] ∨ h0.size ≤ x) (Or.inr sn14) all0)).trans K206 all0).trans K208 all0).trans K213 all0).trans K218 all0).trans K225 all0)⟩
          · refine go_ifY (q := 147) X218 hx (hb hby at_140) (XT.i0_eq_t (by decide)) (by decide) (by decide) ?_
            refine go_iconst (q := 148) X218 hx (hb hby at_147) (v := (0 : Int32)) (by decide) rfl ?_
            refine go_istore (q := 150) X218 hx (hb hby at_148) (l' := #[.val (.int p0), .val (.int p1), .val (.int p2), .val (.int p3), .val (.int p4), .val (.int r_1), .val (.int r_3), .val (.int r_5), .val (.int r_7), .val (.ref ob8), .val (.ref ob14), .val (.int (1 : Int32)), .val (.int (4 : Int32)), .val (.int (0 : Int32))]) rfl rfl ?_
            refine go_aload (q := 152) X218 hx (hb hby at_150) (v := (.ref ob14)) rfl rfl rfl ?_
            refine go_iload (q := 154) X218 hx (hb hby at_152) (v := (1 : Int32)) rfl rfl ?_
            refine go_iload (q := 156) X218 hx (hb hby at_154) (v := (4 : Int32)) rfl rfl ?_
            have f227 : Str4 Z h218 ob14 r_1 r_3 r_5 r_7 := (Str4.keep (Str4.keep (Str4.keep (Str4.keep p20_0 K206) K208) K213) K218)
            have f228 : Exa Z h218 ob14 "java/lang/String" := (f220.keep K218)
            have O229 : Old Z n0 h218 := (O217.keep K218 all0)
            refine go_static (q := 159) X218 hx hZ hown (y := (⟨"com/example/harborspread/harborspread/Decimals", "isDigits", "(Ljava/lang/String;II)Z"⟩ : MethodName)) (w35 hw) (w36 hw) (w37 hw) (w38 hw) (by decide) e218 (b8_7 l Z a0 hw ob14 zc sf rsf r_1 r_3 r_5 r_7 h218 n0 O229 f227 S_0 hr_1 S_2 S_3 S_4 S_5 p1_0 p3_0 p5_0 p7_0 f228) (argsL := [(.ref ob14), (.int (1 : Int32)), (.int (4 : Int32))]) (rest := []) rfl (lenOf pd_15 rfl) rfl (by rw [hml]; rfl) (W := 0) (Nat.le_of_eq rfl) (hb hby at_156) (by decide) (by decide) (by decide) (by decide) rfl ?_
            have f231 : Arv Z h218 ob8 k8 .char (4 : Int32) [(.int r_1), (.int r_3), (.int r_5), (.int r_7)] (.int (0 : Int32)) := (f219.keep K218 nin0)
            rintro T230 h230 _ L230 X230 e230 ⟨r_230, rfl, M230, K230, p230_0⟩
            have N230 := Fr.app N218 M230
            refine go_iload (q := 161) X230 hx (hb hby at_159) (v := (0 : Int32)) rfl rfl ?_
            refine go_icmpN (q := 164) X230 hx (hb hby at_161) (XT.ii_ne_f (by rcases p230_0 with ⟨q, q2⟩ | ⟨q, q2⟩ <;> first | exact q | (exact absurd (q2.2.2) d221))) rfl ?_
            refine go_iconst (q := 165) X230 hx (hb hby at_164) (v := (1 : Int32)) (by decide) rfl ?_
            refine go_goto (q := 169) X230 hx (hb hby at_165) (by decide) (by decide) ?_
            refine go_retI X230 hx hret hlk e230 (hb hby at_169) (by simp) (by decide) (by decide) (by decide) ?_
            exact ⟨(by first | rfl | simp [d211, d216, d221] | simp_all), N230, (((((((((((((((((Keep.refl h0 []).trans K1 all0).trans K3 all0).trans K5 all0).trans K7 all0).ext E8).wr W10 (Or.inr sn8)).wr W11 (Or.inr sn8)).wr W12 (Or.inr sn8)).wr W13 (Or.inr sn8)).ext E14).trans K20 (allS (P := fun x => x ∈ [] ∨ h0.size ≤ x) (Or.inr sn14) all0)).trans K206 all0).trans K208 all0).trans K213 all0).trans K218 all0).trans K230 all0)⟩
        · refine go_ifY (q := 147) X213 hx (hb hby at_127) (XT.i0_eq_t (by decide)) (by decide) (by decide) ?_
          refine go_iconst (q := 148) X213 hx (hb hby at_147) (v := (0 : Int32)) (by decide) rfl ?_
          refine go_istore (q := 150) X213 hx (hb hby at_148) (l' := #[.val (.int p0), .val (.int p1), .val (.int p2), .val (.int p3), .val (.int p4), .val (.int r_1), .val (.int r_3), .val (.int r_5), .val (.int r_7), .val (.ref ob8), .val (.ref ob14), .val (.int (1 : Int32)), .val (.int (4 : Int32)), .val (.int (0 : Int32))]) rfl rfl ?_
          refine go_aload (q := 152) X213 hx (hb hby at_150) (v := (.ref ob14)) rfl rfl rfl ?_
          refine go_iload (q := 154) X213 hx (hb hby at_152) (v := (1 : Int32)) rfl rfl ?_
          refine go_iload (q := 156) X213 hx (hb hby at_154) (v := (4 : Int32)) rfl rfl ?_
          have f232 : Str4 Z h213 ob14 r_1 r_3 r_5 r_7 := (Str4.keep (Str4.keep (Str4.keep p20_0 K206) K208) K213)
          have f233 : Exa Z h213 ob14 "java/lang/String" := (f215.keep K213)
          have O234 : Old Z n0 h213 := (O212.keep K213 all0)
          refine go_static (q := 159) X213 hx hZ hown (y := (⟨"com/example/harborspread/harborspread/Decimals", "isDigits", "(Ljava/lang/String;II)Z"⟩ : MethodName)) (w35 hw) (w36 hw) (w37 hw) (w38 hw) (by decide) e213 (b8_7 l Z a0 hw ob14 zc sf rsf r_1 r_3 r_5 r_7 h213 n0 O234 f232 S_0 hr_1 S_2 S_3 S_4 S_5 p1_0 p3_0 p5_0 p7_0 f233) (argsL := [(.ref ob14), (.int (1 : Int32)), (.int (4 : Int32))]) (rest := []) rfl (lenOf pd_15 rfl) rfl (by rw [hml]; rfl) (W := 0) (Nat.le_of_eq rfl) (hb hby at_156) (by decide) (by decide) (by decide) (by decide) rfl ?_
          have f236 : Arv Z h213 ob8 k8 .char (4 : Int32) [(.int r_1), (.int r_3), (.int r_5), (.int r_7)] (.int (0 : Int32)) := (f214.keep K213 nin0)
          rintro T235 h235 _ L235 X235 e235 ⟨r_235, rfl, M235, K235, p235_0⟩
          have N235 := Fr.app N213 M235
          refine go_iload (q := 161) X235 hx (hb hby at_159) (v := (0 : Int32)) rfl rfl ?_
          refine go_icmpN (q := 164) X235 hx (hb hby at_161) (XT.ii_ne_f (by rcases p235_0 with ⟨q, q2⟩ | ⟨q, q2⟩ <;> first | exact q | (exact absurd (q2.2.1) d216))) rfl ?_
          refine go_iconst (q := 165) X235 hx (hb hby at_164) (v := (1 : Int32)) (by decide) rfl ?_
          refine go_goto (q := 169) X235 hx (hb hby at_165) (by decide) (by decide) ?_
          refine go_retI X235 hx hret hlk e235 (hb hby at_169) (by simp) (by decide) (by decide) (by decide) ?_
          exact ⟨(by first | rfl | simp [d211, d216] | simp_all), N235, ((((((((((((((((Keep.refl h0 []).trans K1 all0).trans K3 all0).trans K5 all0).trans K7 all0).ext E8).wr W10 (Or.inr sn8)).wr W11 (Or.inr sn8)).wr W12 (Or.inr sn8)).wr W13 (Or.inr sn8)).ext E14).trans K20 (allS (P := fun x => x ∈ [] ∨ h0.size ≤ x) (Or.inr sn14) all0)).trans K206 all0).trans K208 all0).trans K213 all0).trans K235 all0)⟩
      · refine go_ifY (q := 147) X208 hx (hb hby at_114) (XT.i0_eq_t (by decide)) (by decide) (by decide) ?_
        refine go_iconst (q := 148) X208 hx (hb hby at_147) (v := (0 : Int32)) (by decide) rfl ?_
        refine go_istore (q := 150) X208 hx (hb hby at_148) (l' := #[.val (.int p0), .val (.int p1), .val (.int p2), .val (.int p3), .val (.int p4), .val (.int r_1), .val (.int r_3), .val (.int r_5), .val (.int r_7), .val (.ref ob8), .val (.ref ob14), .val (.int (1 : Int32)), .val (.int (4 : Int32)), .val (.int (0 : Int32))]) rfl rfl ?_
        refine go_aload (q := 152) X208 hx (hb hby at_150) (v := (.ref ob14)) rfl rfl rfl ?_
        refine go_iload (q := 154) X208 hx (hb hby at_152) (v := (1 : Int32)) rfl rfl ?_
        refine go_iload (q := 156) X208 hx (hb hby at_154) (v := (4 : Int32)) rfl rfl ?_
        have f237 : Str4 Z h208 ob14 r_1 r_3 r_5 r_7 := (Str4.keep (Str4.keep p20_0 K206) K208)
        have f238 : Exa Z h208 ob14 "java/lang/String" := (f210.keep K208)
        have O239 : Old Z n0 h208 := (O207.keep K208 all0)
        refine go_static (q := 159) X208 hx hZ hown (y := (⟨"com/example/harborspread/harborspread/Decimals", "isDigits", "(Ljava/lang/String;II)Z"⟩ : MethodName)) (w35 hw) (w36 hw) (w37 hw) (w38 hw) (by decide) e208 (b8_7 l Z a0 hw ob14 zc sf rsf r_1 r_3 r_5 r_7 h208 n0 O239 f237 S_0 hr_1 S_2 S_3 S_4 S_5 p1_0 p3_0 p5_0 p7_0 f238) (argsL := [(.ref ob14), (.int (1 : Int32)), (.int (4 : Int32))]) (rest := []) rfl (lenOf pd_15 rfl) rfl (by rw [hml]; rfl) (W := 0) (Nat.le_of_eq rfl) (hb hby at_156) (by decide) (by decide) (by decide) (by decide) rfl ?_
        have f241 : Arv Z h208 ob8 k8 .char (4 : Int32) [(.int r_1), (.int r_3), (.int r_5), (.int r_7)] (.int (0 : Int32)) := (f209.keep K208 nin0)
        rintro T240 h240 _ L240 X240 e240 ⟨r_240, rfl, M240, K240, p240_0⟩
        have N240 := Fr.app N208 M240
        refine go_iload (q := 161) X240 hx (hb hby at_159) (v := (0 : Int32)) rfl rfl ?_
        refine go_icmpN (q := 164) X240 hx (hb hby at_161) (XT.ii_ne_f (by rcases p240_0 with ⟨q, q2⟩ | ⟨q, q2⟩ <;> first | exact q | (exact absurd (q2.1) d211))) rfl ?_
        refine go_iconst (q := 165) X240 hx (hb hby at_164) (v := (1 : Int32)) (by decide) rfl ?_
        refine go_goto (q := 169) X240 hx (hb hby at_165) (by decide) (by decide) ?_
        refine go_retI X240 hx hret hlk e240 (hb hby at_169) (by simp) (by decide) (by decide) (by decide) ?_
        exact ⟨(by first | rfl | simp [d211] | simp_all), N240, (((((((((((((((Keep.refl h0 []).trans K1 all0).trans K3 all0).trans K5 all0).trans K7 all0).ext E8).wr W10 (Or.inr sn8)).wr W11 (Or.inr sn8)).wr W12 (Or.inr sn8)).wr W13 (Or.inr sn8)).ext E14).trans K20 (allS (P := fun x => x ∈ [] ∨ h0.size ≤ x) (Or.inr sn14) all0)).trans K206 all0).trans K208 all0).trans K240 all0)⟩
  · rw [c71]
    refine go_istore (q := 73) X20 hx (hb hby at_71) (l' := #[.val (.int p0), .val (.int p1), .val (.int p2), .val (.int p3), .val (.int p4), .val (.int r_1), .val (.int r_3), .val (.int r_5), .val (.int r_7), .val (.ref ob8), .val (.ref ob14), .val (.int (2 : Int32)), .unset, .unset]) rfl rfl ?_
    refine go_iload (q := 75) X20 hx (hb hby at_73) (v := p4) rfl rfl ?_
    refine go_iconst (q := 76) X20 hx (hb hby at_75) (v := (3 : Int32)) (by decide) rfl ?_
    refine go_iushr (q := 77) X20 hx (hb hby at_76) (v := (XT.ushr p4 (3 : Int32))) rfl rfl ?_
    refine go_bipush (q := 79) X20 hx (hb hby at_77) (v := (7 : Int32)) (by decide) rfl ?_
    refine go_iand (q := 80) X20 hx (hb hby at_79) (v := ((XT.ushr p4 (3 : Int32)) &&& (7 : Int32))) rfl rfl ?_
    refine go_iconst (q := 81) X20 hx (hb hby at_80) (v := (5 : Int32)) (by decide) rfl ?_
    refine go_irem (q := 82) X20 hx (hb hby at_81) (by decide) rfl ?_
    rcases own_t5 p4 with c82 | c82 | c82 | c82 | c82
    · rw [c82]
      refine go_istore (q := 84) X20 hx (hb hby at_82) (l' := #[.val (.int p0), .val (.int p1), .val (.int p2), .val (.int p3), .val (.int p4), .val (.int r_1), .val (.int r_3), .val (.int r_5), .val (.int r_7), .val (.ref ob8), .val (.ref ob14), .val (.int (2 : Int32)), .val (.int (0 : Int32)), .unset]) rfl rfl ?_
      refine go_iload (q := 86) X20 hx (hb hby at_84) (v := (2 : Int32)) rfl rfl ?_
      refine go_iload (q := 88) X20 hx (hb hby at_86) (v := (0 : Int32)) rfl rfl ?_
      refine go_icmpY (q := 147) X20 hx (hb hby at_88) (XT.ii_ge_t (by decide)) (by decide) (by decide) ?_
      refine go_iconst (q := 148) X20 hx (hb hby at_147) (v := (0 : Int32)) (by decide) rfl ?_
      refine go_istore (q := 150) X20 hx (hb hby at_148) (l' := #[.val (.int p0), .val (.int p1), .val (.int p2), .val (.int p3), .val (.int p4), .val (.int r_1), .val (.int r_3), .val (.int r_5), .val (.int r_7), .val (.ref ob8), .val (.ref ob14), .val (.int (2 : Int32)), .val (.int (0 : Int32)), .val (.int (0 : Int32))]) rfl rfl ?_
      refine go_aload (q := 152) X20 hx (hb hby at_150) (v := (.ref ob14)) rfl rfl rfl ?_
      refine go_iload (q := 154) X20 hx (hb hby at_152) (v := (2 : Int32)) rfl rfl ?_
      refine go_iload (q := 156) X20 hx (hb hby at_154) (v := (0 : Int32)) rfl rfl ?_
      have O242 : Old Z n0 h20 := (O19.keep K20 (allS fr14 all0))
      refine go_static (q := 159) X20 hx hZ hown (y := (⟨"com/example/harborspread/harborspread/Decimals", "isDigits", "(Ljava/lang/String;II)Z"⟩ : MethodName)) (w35 hw) (w36 hw) (w37 hw) (w38 hw) (by decide) e20 (b8 l Z a0 hw ob14 (2 : Int32) (0 : Int32) h20 n0 O242 (by decide)) (argsL := [(.ref ob14), (.int (2 : Int32)), (.int (0 : Int32))]) (rest := []) rfl (lenOf pd_15 rfl) rfl (by rw [hml]; rfl) (W := 0) (Nat.le_of_eq rfl) (hb hby at_156) (by decide) (by decide) (by decide) (by decide) rfl ?_
      rintro T243 h243 _ L243 X243 e243 ⟨rfl, M243, K243⟩
      have N243 := Fr.app N20 M243
      refine go_iload (q := 161) X243 hx (hb hby at_159) (v := (0 : Int32)) rfl rfl ?_
      refine go_icmpN (q := 164) X243 hx (hb hby at_161) (XT.ii_ne_f (by decide)) rfl ?_
      refine go_iconst (q := 165) X243 hx (hb hby at_164) (v := (1 : Int32)) (by decide) rfl ?_
      refine go_goto (q := 169) X243 hx (hb hby at_165) (by decide) (by decide) ?_
      refine go_retI X243 hx hret hlk e243 (hb hby at_169) (by simp) (by decide) (by decide) (by decide) ?_
      exact ⟨rfl, N243, (((((((((((((Keep.refl h0 []).trans K1 all0).trans K3 all0).trans K5 all0).trans K7 all0).ext E8).wr W10 (Or.inr sn8)).wr W11 (Or.inr sn8)).wr W12 (Or.inr sn8)).wr W13 (Or.inr sn8)).ext E14).trans K20 (allS (P := fun x => x ∈ [] ∨ h0.size ≤ x) (Or.inr sn14) all0)).trans K243 all0)⟩
    · rw [c82]
      refine go_istore (q := 84) X20 hx (hb hby at_82) (l' := #[.val (.int p0), .val (.int p1), .val (.int p2), .val (.int p3), .val (.int p4), .val (.int r_1), .val (.int r_3), .val (.int r_5), .val (.int r_7), .val (.ref ob8), .val (.ref ob14), .val (.int (2 : Int32)), .val (.int (1 : Int32)), .unset]) rfl rfl ?_
      refine go_iload (q := 86) X20 hx (hb hby at_84) (v := (2 : Int32)) rfl rfl ?_
      refine go_iload (q := 88) X20 hx (hb hby at_86) (v := (1 : Int32)) rfl rfl ?_
      refine go_icmpY (q := 147) X20 hx (hb hby at_88) (XT.ii_ge_t (by decide)) (by decide) (by decide) ?_
      refine go_iconst (q := 148) X20 hx (hb hby at_147) (v := (0 : Int32)) (by decide) rfl ?_
      refine go_istore (q := 150) X20 hx (hb hby at_148) (l' := #[.val (.int p0), .val (.int p1), .val (.int p2), .val (.int p3), .val (.int p4), .val (.int r_1), .val (.int r_3), .val (.int r_5), .val (.int r_7), .val (.ref ob8), .val (.ref ob14), .val (.int (2 : Int32)), .val (.int (1 : Int32)), .val (.int (0 : Int32))]) rfl rfl ?_
      refine go_aload (q := 152) X20 hx (hb hby at_150) (v := (.ref ob14)) rfl rfl rfl ?_
      refine go_iload (q := 154) X20 hx (hb hby at_152) (v := (2 : Int32)) rfl rfl ?_
      refine go_iload (q := 156) X20 hx (hb hby at_154) (v := (1 : Int32)) rfl rfl ?_
      have O244 : Old Z n0 h20 := (O19.keep K20 (allS fr14 all0))
      refine go_static (q := 159) X20 hx hZ hown (y := (⟨"com/example/harborspread/harborspread/Decimals", "isDigits", "(Ljava/lang/String;II)Z"⟩ : MethodName)) (w35 hw) (w36 hw) (w37 hw) (w38 hw) (by decide) e20 (b8 l Z a0 hw ob14 (2 : Int32) (1 : Int32) h20 n0 O244 (by decide)) (argsL := [(.ref ob14), (.int (2 : Int32)), (.int (1 : Int32))]) (rest := []) rfl (lenOf pd_15 rfl) rfl (by rw [hml]; rfl) (W := 0) (Nat.le_of_eq rfl) (hb hby at_156) (by decide) (by decide) (by decide) (by decide) rfl ?_
      rintro T245 h245 _ L245 X245 e245 ⟨rfl, M245, K245⟩
      have N245 := Fr.app N20 M245
      refine go_iload (q := 161) X245 hx (hb hby at_159) (v := (0 : Int32)) rfl rfl ?_
      refine go_icmpN (q := 164) X245 hx (hb hby at_161) (XT.ii_ne_f (by decide)) rfl ?_
      refine go_iconst (q := 165) X245 hx (hb hby at_164) (v := (1 : Int32)) (by decide) rfl ?_
      refine go_goto (q := 169) X245 hx (hb hby at_165) (by decide) (by decide) ?_
      refine go_retI X245 hx hret hlk e245 (hb hby at_169) (by simp) (by decide) (by decide) (by decide) ?_
      exact ⟨rfl, N245, (((((((((((((Keep.refl h0 []).trans K1 all0).trans K3 all0).trans K5 all0).trans K7 all0).ext E8).wr W10 (Or.inr sn8)).wr W11 (Or.inr sn8)).wr W12 (Or.inr sn8)).wr W13 (Or.inr sn8)).ext E14).trans K20 (allS (P := fun x => x ∈ [] ∨ h0.size ≤ x) (Or.inr sn14) all0)).trans K245 all0)⟩
    · rw [c82]
      refine go_istore (q := 84) X20 hx (hb hby at_82) (l' := #[.val (.int p0), .val (.int p1), .val (.int p2), .val (.int p3), .val (.int p4), .val (.int r_1), .val (.int r_3), .val (.int r_5), .val (.int r_7), .val (.ref ob8), .val (.ref ob14), .val (.int (2 : Int32)), .val (.int (2 : Int32)), .unset]) rfl rfl ?_
      refine go_iload (q := 86) X20 hx (hb hby at_84) (v := (2 : Int32)) rfl rfl ?_
      refine go_iload (q := 88) X20 hx (hb hby at_86) (v := (2 : Int32)) rfl rfl ?_
      refine go_icmpY (q := 147) X20 hx (hb hby at_88) (XT.ii_ge_t (by decide)) (by decide) (by decide) ?_
      refine go_iconst (q := 148) X20 hx (hb hby at_147) (v := (0 : Int32)) (by decide) rfl ?_
      refine go_istore (q := 150) X20 hx (hb hby at_148) (l' := #[.val (.int p0), .val (.int p1), .val (.int p2), .val (.int p3), .val (.int p4), .val (.int r_1), .val (.int r_3), .val (.int r_5), .val (.int r_7), .val (.ref ob8), .val (.ref ob14), .val (.int (2 : Int32)), .val (.int (2 : Int32)), .val (.int (0 : Int32))]) rfl rfl ?_
      refine go_aload (q := 152) X20 hx (hb hby at_150) (v := (.ref ob14)) rfl rfl rfl ?_
      refine go_iload (q := 154) X20 hx (hb hby at_152) (v := (2 : Int32)) rfl rfl ?_
      refine go_iload (q := 156) X20 hx (hb hby at_154) (v := (2 : Int32)) rfl rfl ?_
      have O246 : Old Z n0 h20 := (O19.keep K20 (allS fr14 all0))
      refine go_static (q := 159) X20 hx hZ hown (y := (⟨"com/example/harborspread/harborspread/Decimals", "isDigits", "(Ljava/lang/String;II)Z"⟩ : MethodName)) (w35 hw) (w36 hw) (w37 hw) (w38 hw) (by decide) e20 (b8 l Z a0 hw ob14 (2 : Int32) (2 : Int32) h20 n0 O246 (by decide)) (argsL := [(.ref ob14), (.int (2 : Int32)), (.int (2 : Int32))]) (rest := []) rfl (lenOf pd_15 rfl) rfl (by rw [hml]; rfl) (W := 0) (Nat.le_of_eq rfl) (hb hby at_156) (by decide) (by decide) (by decide) (by decide) rfl ?_
      rintro T247 h247 _ L247 X247 e247 ⟨rfl, M247, K247⟩
      have N247 := Fr.app N20 M247
      refine go_iload (q := 161) X247 hx (hb hby at_159) (v := (0 : Int32)) rfl rfl ?_
      refine go_icmpN (q := 164) X247 hx (hb hby at_161) (XT.ii_ne_f (by decide)) rfl ?_
      refine go_iconst (q := 165) X247 hx (hb hby at_164) (v := (1 : Int32)) (by decide) rfl ?_
      refine go_goto (q := 169) X247 hx (hb hby at_165) (by decide) (by decide) ?_
      refine go_retI X247 hx hret hlk e247 (hb hby at_169) (by simp) (by decide) (by decide) (by decide) ?_
      exact ⟨rfl, N247, (((((((((((((Keep.refl h0 []).trans K1 all0).trans K3 all0).trans K5 all0).trans K7 all0).ext E8).wr W10 (Or.inr sn8)).wr W11 (Or.inr sn8)).wr W12 (Or.inr sn8)).wr W13 (Or.inr sn8)).ext E14).trans K20 (allS (P := fun x => x ∈ [] ∨ h0.size ≤ x) (Or.inr sn14) all0)).trans K247 all0)⟩
    · rw [c82]
      refine go_istore (q := 84) X20 hx (hb hby at_82) (l' := #[.val (.int p0), .val (.int p1), .val (.int p2), .val (.int p3), .val (.int p4), .val (.int r_1), .val (.int r_3), .val (.int r_5), .val (.int r_7), .val (.ref ob8), .val (.ref ob14), .val (.int (2 : Int32)), .val (.int (3 : Int32)), .unset]) rfl rfl ?_
      refine go_iload (q := 86) X20 hx (hb hby at_84) (v := (2 : Int32)) rfl rfl ?_
      refine go_iload (q := 88) X20 hx (hb hby at_86) (v := (3 : Int32)) rfl rfl ?_
      refine go_icmpN (q := 91) X20 hx (hb hby at_88) (XT.ii_ge_f (by decide)) rfl ?_
      refine go_iload (q := 93) X20 hx (hb hby at_91) (v := r_1) rfl rfl ?_
      refine go_iconst (q := 94) X20 hx (hb hby at_93) (v := (0 : Int32)) (by decide) rfl ?_
      refine go_iload (q := 96) X20 hx (hb hby at_94) (v := (2 : Int32)) rfl rfl ?_
      refine go_iload (q := 98) X20 hx (hb hby at_96) (v := (3 : Int32)) rfl rfl ?_
      have O248 : Old Z n0 h20 := (O19.keep K20 (allS fr14 all0))
      refine go_static (q := 101) X20 hx hZ hown (y := (⟨"com/example/harborspread/harborspread/DecimalsIsDigitsPinLaw", "fine", "(CIII)Z"⟩ : MethodName)) (w58 hw) (w59 hw) (w2 hw) (w60 hw) (by decide) e20 (b14 l Z a0 hw r_1 (0 : Int32) (2 : Int32) (3 : Int32) h20 n0 O248 (by decide)) (argsL := [(.int r_1), (.int (0 : Int32)), (.int (2 : Int32)), (.int (3 : Int32))]) (rest := []) rfl (lenOf pd_16 rfl) rfl (by rw [hml]; rfl) (W := 0) (Nat.le_of_eq rfl) (hb hby at_98) (by decide) (by decide) (by decide) (by decide) rfl ?_
      rintro T249 h249 _ L249 X249 e249 ⟨rfl, M249, K249⟩
      have N249 := Fr.app N20 M249
      refine go_ifN (q := 104) X249 hx (hb hby at_101) (XT.i0_eq_f (by decide)) rfl ?_
      refine go_iload (q := 106) X249 hx (hb hby at_104) (v := r_3) rfl rfl ?_
      refine go_iconst (q := 107) X249 hx (hb hby at_106) (v := (1 : Int32)) (by decide) rfl ?_
      refine go_iload (q := 109) X249 hx (hb hby at_107) (v := (2 : Int32)) rfl rfl ?_
      refine go_iload (q := 111) X249 hx (hb hby at_109) (v := (3 : Int32)) rfl rfl ?_
      have O250 : Old Z n0 h249 := (O248.keep K249 all0)
      refine go_static (q := 114) X249 hx hZ hown (y := (⟨"com/example/harborspread/harborspread/DecimalsIsDigitsPinLaw", "fine", "(CIII)Z"⟩ : MethodName)) (w58 hw) (w59 hw) (w2 hw) (w60 hw) (by decide) e249 (b14 l Z a0 hw r_3 (1 : Int32) (2 : Int32) (3 : Int32) h249 n0 O250 (by decide)) (argsL := [(.int r_3), (.int (1 : Int32)), (.int (2 : Int32)), (.int (3 : Int32))]) (rest := []) rfl (lenOf pd_16 rfl) rfl (by rw [hml]; rfl) (W := 0) (Nat.le_of_eq rfl) (hb hby at_111) (by decide) (by decide) (by decide) (by decide) rfl ?_
      rintro T251 h251 _ L251 X251 e251 ⟨rfl, M251, K251⟩
      have N251 := Fr.app N249 M251
      refine go_ifN (q := 117) X251 hx (hb hby at_114) (XT.i0_eq_f (by decide)) rfl ?_
      refine go_iload (q := 119) X251 hx (hb hby at_117) (v := r_5) rfl rfl ?_
      refine go_iconst (q := 120) X251 hx (hb hby at_119) (v := (2 : Int32)) (by decide) rfl ?_
      refine go_iload (q := 122) X251 hx (hb hby at_120) (v := (2 : Int32)) rfl rfl ?_
      refine go_iload (q := 124) X251 hx (hb hby at_122) (v := (3 : Int32)) rfl rfl ?_
      have O252 : Old Z n0 h251 := (O250.keep K251 all0)
      refine go_static (q := 127) X251 hx hZ hown (y := (⟨"com/example/harborspread/harborspread/DecimalsIsDigitsPinLaw", "fine", "(CIII)Z"⟩ : MethodName)) (w58 hw) (w59 hw) (w2 hw) (w60 hw) (by decide) e251 (b14_2 l Z a0 hw r_5 (2 : Int32) (2 : Int32) (3 : Int32) h251 n0 O252 (by decide) (by decide)) (argsL := [(.int r_5), (.int (2 : Int32)), (.int (2 : Int32)), (.int (3 : Int32))]) (rest := []) rfl (lenOf pd_16 rfl) rfl (by rw [hml]; rfl) (W := 0) (Nat.le_of_eq rfl) (hb hby at_124) (by decide) (by decide) (by decide) (by decide) rfl ?_
      have f254 : Arv Z h251 ob8 k8 .char (4 : Int32) [(.int r_1), (.int r_3), (.int r_5), (.int r_7)] (.int (0 : Int32)) := (((f18.keep K20 (ninS ne_ob8_ob14 nin0)).keep K249 nin0).keep K251 nin0)
      have f255 : Exa Z h251 ob14 "java/lang/String" := ((p20_1.keep K249).keep K251)
      rintro T253 h253 _ L253 X253 e253 ⟨r_253, rfl, M253, K253, p253_0⟩
      have N253 := Fr.app N251 M253
      rcases p253_0 with ⟨rfl, d256⟩ | ⟨rfl, d256⟩
      · refine go_ifN (q := 130) X253 hx (hb hby at_127) (XT.i0_eq_f (by decide)) rfl ?_
        refine go_iload (q := 132) X253 hx (hb hby at_130) (v := r_7) rfl rfl ?_
        refine go_iconst (q := 133) X253 hx (hb hby at_132) (v := (3 : Int32)) (by decide) rfl ?_
        refine go_iload (q := 135) X253 hx (hb hby at_133) (v := (2 : Int32)) rfl rfl ?_
        refine go_iload (q := 137) X253 hx (hb hby at_135) (v := (3 : Int32)) rfl rfl ?_
        have O257 : Old Z n0 h253 := (O252.keep K253 all0)
        refine go_static (q := 140) X253 hx hZ hown (y := (⟨"com/example/harborspread/harborspread/DecimalsIsDigitsPinLaw", "fine", "(CIII)Z"⟩ : MethodName)) (w58 hw) (w59 hw) (w2 hw) (w60 hw) (by decide) e253 (b14_1 l Z a0 hw r_7 (3 : Int32) (2 : Int32) (3 : Int32) h253 n0 O257 (by decide) (by decide)) (argsL := [(.int r_7), (.int (3 : Int32)), (.int (2 : Int32)), (.int (3 : Int32))]) (rest := []) rfl (lenOf pd_16 rfl) rfl (by rw [hml]; rfl) (W := 0) (Nat.le_of_eq rfl) (hb hby at_137) (by decide) (by decide) (by decide) (by decide) rfl ?_
        rintro T258 h258 _ L258 X258 e258 ⟨rfl, M258, K258⟩
        have N258 := Fr.app N253 M258
        refine go_ifN (q := 143) X258 hx (hb hby at_140) (XT.i0_eq_f (by decide)) rfl ?_
        refine go_iconst (q := 144) X258 hx (hb hby at_143) (v := (1 : Int32)) (by decide) rfl ?_
        refine go_goto (q := 148) X258 hx (hb hby at_144) (by decide) (by decide) ?_
        refine go_istore (q := 150) X258 hx (hb hby at_148) (l' := #[.val (.int p0), .val (.int p1), .val (.int p2), .val (.int p3), .val (.int p4), .val (.int r_1), .val (.int r_3), .val (.int r_5), .val (.int r_7), .val (.ref ob8), .val (.ref ob14), .val (.int (2 : Int32)), .val (.int (3 : Int32)), .val (.int (1 : Int32))]) rfl rfl ?_
        refine go_aload (q := 152) X258 hx (hb hby at_150) (v := (.ref ob14)) rfl rfl rfl ?_
        refine go_iload (q := 154) X258 hx (hb hby at_152) (v := (2 : Int32)) rfl rfl ?_
        refine go_iload (q := 156) X258 hx (hb hby at_154) (v := (3 : Int32)) rfl rfl ?_
        have f259 : Str4 Z h258 ob14 r_1 r_3 r_5 r_7 := (Str4.keep (Str4.keep (Str4.keep (Str4.keep p20_0 K249) K251) K253) K258)
        have f260 : Exa Z h258 ob14 "java/lang/String" := ((f255.keep K253).keep K258)
        have O261 : Old Z n0 h258 := (O257.keep K258 all0)
        refine go_static (q := 159) X258 hx hZ hown (y := (⟨"com/example/harborspread/harborspread/Decimals", "isDigits", "(Ljava/lang/String;II)Z"⟩ : MethodName)) (w35 hw) (w36 hw) (w37 hw) (w38 hw) (by decide) e258 (b8_8 l Z a0 hw ob14 zc sf rsf r_1 r_3 r_5 r_7 h258 n0 O261 f259 S_0 hr_1 S_2 S_3 S_4 S_5 p1_0 p3_0 p5_0 p7_0 f260) (argsL := [(.ref ob14), (.int (2 : Int32)), (.int (3 : Int32))]) (rest := []) rfl (lenOf pd_15 rfl) rfl (by rw [hml]; rfl) (W := 0) (Nat.le_of_eq rfl) (hb hby at_156) (by decide) (by decide) (by decide) (by decide) rfl ?_
        have f263 : Arv Z h258 ob8 k8 .char (4 : Int32) [(.int r_1), (.int r_3), (.int r_5), (.int r_7)] (.int (0 : Int32)) := ((f254.keep K253 nin0).keep K258 nin0)
        rintro T262 h262 _ L262 X262 e262 ⟨r_262, rfl, M262, K262, p262_0⟩
        have N262 := Fr.app N258 M262
        refine go_iload (q := 161) X262 hx (hb hby at_159) (v := (1 : Int32)) rfl rfl ?_
        refine go_icmpN (q := 164) X262 hx (hb hby at_161) (XT.ii_ne_f (by rcases p262_0 with ⟨q, q2⟩ | ⟨q, q2⟩ <;> first | exact q | (exact absurd d256 q2))) rfl ?_
        refine go_iconst (q := 165) X262 hx (hb hby at_164) (v := (1 : Int32)) (by decide) rfl ?_
        refine go_goto (q := 169) X262 hx (hb hby at_165) (by decide) (by decide) ?_
        refine go_retI X262 hx hret hlk e262 (hb hby at_169) (by simp) (by decide) (by decide) (by decide) ?_
        exact ⟨(by first | rfl | simp [d256] | simp_all), N262, (((((((((((((((((Keep.refl h0 []).trans K1 all0).trans K3 all0).trans K5 all0).trans K7 all0).ext E8).wr W10 (Or.inr sn8)).wr W11 (Or.inr sn8)).wr W12 (Or.inr sn8)).wr W13 (Or.inr sn8)).ext E14).trans K20 (allS (P := fun x => x ∈ [] ∨ h0.size ≤ x) (Or.inr sn14) all0)).trans K249 all0).trans K251 all0).trans K253 all0).trans K258 all0).trans K262 all0)⟩
      · refine go_ifY (q := 147) X253 hx (hb hby at_127) (XT.i0_eq_t (by decide)) (by decide) (by decide) ?_
        refine go_iconst (q := 148) X253 hx (hb hby at_147) (v := (0 : Int32)) (by decide) rfl ?_
        refine go_istore (q := 150) X253 hx (hb hby at_148) (l' := #[.val (.int p0), .val (.int p1), .val (.int p2), .val (.int p3), .val (.int p4), .val (.int r_1), .val (.int r_3), .val (.int r_5), .val (.int r_7), .val (.ref ob8), .val (.ref ob14), .val (.int (2 : Int32)), .val (.int (3 : Int32)), .val (.int (0 : Int32))]) rfl rfl ?_
        refine go_aload (q := 152) X253 hx (hb hby at_150) (v := (.ref ob14)) rfl rfl rfl ?_
        refine go_iload (q := 154) X253 hx (hb hby at_152) (v := (2 : Int32)) rfl rfl ?_
        refine go_iload (q := 156) X253 hx (hb hby at_154) (v := (3 : Int32)) rfl rfl ?_
        have f264 : Str4 Z h253 ob14 r_1 r_3 r_5 r_7 := (Str4.keep (Str4.keep (Str4.keep p20_0 K249) K251) K253)
        have f265 : Exa Z h253 ob14 "java/lang/String" := (f255.keep K253)
        have O266 : Old Z n0 h253 := (O252.keep K253 all0)
        refine go_static (q := 159) X253 hx hZ hown (y := (⟨"com/example/harborspread/harborspread/Decimals", "isDigits", "(Ljava/lang/String;II)Z"⟩ : MethodName)) (w35 hw) (w36 hw) (w37 hw) (w38 hw) (by decide) e253 (b8_8 l Z a0 hw ob14 zc sf rsf r_1 r_3 r_5 r_7 h253 n0 O266 f264 S_0 hr_1 S_2 S_3 S_4 S_5 p1_0 p3_0 p5_0 p7_0 f265) (argsL := [(.ref ob14), (.int (2 : Int32)), (.int (3 : Int32))]) (rest := []) rfl (lenOf pd_15 rfl) rfl (by rw [hml]; rfl) (W := 0) (Nat.le_of_eq rfl) (hb hby at_156) (by decide) (by decide) (by decide) (by decide) rfl ?_
        have f268 : Arv Z h253 ob8 k8 .char (4 : Int32) [(.int r_1), (.int r_3), (.int r_5), (.int r_7)] (.int (0 : Int32)) := (f254.keep K253 nin0)
        rintro T267 h267 _ L267 X267 e267 ⟨r_267, rfl, M267, K267, p267_0⟩
        have N267 := Fr.app N253 M267
        refine go_iload (q := 161) X267 hx (hb hby at_159) (v := (0 : Int32)) rfl rfl ?_
        refine go_icmpN (q := 164) X267 hx (hb hby at_161) (XT.ii_ne_f (by rcases p267_0 with ⟨q, q2⟩ | ⟨q, q2⟩ <;> first | exact q | (exact absurd (q2) d256))) rfl ?_
        refine go_iconst (q := 165) X267 hx (hb hby at_164) (v := (1 : Int32)) (by decide) rfl ?_
        refine go_goto (q := 169) X267 hx (hb hby at_165) (by decide) (by decide) ?_
        refine go_retI X267 hx hret hlk e267 (hb hby at_169) (by simp) (by decide) (by decide) (by decide) ?_
        exact ⟨(by first | rfl | simp [d256] | simp_all), N267, ((((((((((((((((Keep.refl h0 []).trans K1 all0).trans K3 all0).trans K5 all0).trans K7 all0).ext E8).wr W10 (Or.inr sn8)).wr W11 (Or.inr sn8)).wr W12 (Or.inr sn8)).wr W13 (Or.inr sn8)).ext E14).trans K20 (allS (P := fun x => x ∈ [] ∨ h0.size ≤ x) (Or.inr sn14) all0)).trans K249 all0).trans K251 all0).trans K253 all0).trans K267 all0)⟩
    · rw [c82]
      refine go_istore (q := 84) X20 hx (hb hby at_82) (l' := #[.val (.int p0), .val (.int p1), .val (.int p2), .val (.int p3), .val (.int p4), .val (.int r_1), .val (.int r_3), .val (.int r_5), .val (.int r_7), .val (.ref ob8), .val (.ref ob14), .val (.int (2 : Int32)), .val (.int (4 : Int32)), .unset]) rfl rfl ?_
      refine go_iload (q := 86) X20 hx (hb hby at_84) (v := (2 : Int32)) rfl rfl ?_
      refine go_iload (q := 88) X20 hx (hb hby at_86) (v := (4 : Int32)) rfl rfl ?_
      refine go_icmpN (q := 91) X20 hx (hb hby at_88) (XT.ii_ge_f (by decide)) rfl ?_
      refine go_iload (q := 93) X20 hx (hb hby at_91) (v := r_1) rfl rfl ?_
      refine go_iconst (q := 94) X20 hx (hb hby at_93) (v := (0 : Int32)) (by decide) rfl ?_
      refine go_iload (q := 96) X20 hx (hb hby at_94) (v := (2 : Int32)) rfl rfl ?_
      refine go_iload (q := 98) X20 hx (hb hby at_96) (v := (4 : Int32)) rfl rfl ?_
      have O269 : Old Z n0 h20 := (O19.keep K20 (allS fr14 all0))
      refine go_static (q := 101) X20 hx hZ hown (y := (⟨"com/example/harborspread/harborspread/DecimalsIsDigitsPinLaw", "fine", "(CIII)Z"⟩ : MethodName)) (w58 hw) (w59 hw) (w2 hw) (w60 hw) (by decide) e20 (b14 l Z a0 hw r_1 (0 : Int32) (2 : Int32) (4 : Int32) h20 n0 O269 (by decide)) (argsL := [(.int r_1), (.int (0 : Int32)), (.int (2 : Int32)), (.int (4 : Int32))]) (rest := []) rfl (lenOf pd_16 rfl) rfl (by rw [hml]; rfl) (W := 0) (Nat.le_of_eq rfl) (hb hby at_98) (by decide) (by decide) (by decide) (by decide) rfl ?_
      rintro T270 h270 _ L270 X270 e270 ⟨rfl, M270, K270⟩
      have N270 := Fr.app N20 M270
      refine go_ifN (q := 104) X270 hx (hb hby at_101) (XT.i0_eq_f (by decide)) rfl ?_
      refine go_iload (q := 106) X270 hx (hb hby at_104) (v := r_3) rfl rfl ?_
      refine go_iconst (q := 107) X270 hx (hb hby at_106) (v := (1 : Int32)) (by decide) rfl ?_
      refine go_iload (q := 109) X270 hx (hb hby at_107) (v := (2 : Int32)) rfl rfl ?_
      refine go_iload (q := 111) X270 hx (hb hby at_109) (v := (4 : Int32)) rfl rfl ?_
      have O271 : Old Z n0 h270 := (O269.keep K270 all0)
      refine go_static (q := 114) X270 hx hZ hown (y := (⟨"com/example/harborspread/harborspread/DecimalsIsDigitsPinLaw", "fine", "(CIII)Z"⟩ : MethodName)) (w58 hw) (w59 hw) (w2 hw) (w60 hw) (by decide) e270 (b14 l Z a0 hw r_3 (1 : Int32) (2 : Int32) (4 : Int32) h270 n0 O271 (by decide)) (argsL := [(.int r_3), (.int (1 : Int32)), (.int (2 : Int32)), (.int (4 : Int32))]) (rest := []) rfl (lenOf pd_16 rfl) rfl (by rw [hml]; rfl) (W := 0) (Nat.le_of_eq rfl) (hb hby at_111) (by decide) (by decide) (by decide) (by decide) rfl ?_
      rintro T272 h272 _ L272 X272 e272 ⟨rfl, M272, K272⟩
      have N272 := Fr.app N270 M272
      refine go_ifN (q := 117) X272 hx (hb hby at_114) (XT.i0_eq_f (by decide)) rfl ?_
      refine go_iload (q := 119) X272 hx (hb hby at_117) (v := r_5) rfl rfl ?_
      refine go_iconst (q := 120) X272 hx (hb hby at_119) (v := (2 : Int32)) (by decide) rfl ?_
      refine go_iload (q := 122) X272 hx (hb hby at_120) (v := (2 : Int32)) rfl rfl ?_
      refine go_iload (q := 124) X272 hx (hb hby at_122) (v := (4 : Int32)) rfl rfl ?_
      have O273 : Old Z n0 h272 := (O271.keep K272 all0)
      refine go_static (q := 127) X272 hx hZ hown (y := (⟨"com/example/harborspread/harborspread/DecimalsIsDigitsPinLaw", "fine", "(CIII)Z"⟩ : MethodName)) (w58 hw) (w59 hw) (w2 hw) (w60 hw) (by decide) e272 (b14_2 l Z a0 hw r_5 (2 : Int32) (2 : Int32) (4 : Int32) h272 n0 O273 (by decide) (by decide)) (argsL := [(.int r_5), (.int (2 : Int32)), (.int (2 : Int32)), (.int (4 : Int32))]) (rest := []) rfl (lenOf pd_16 rfl) rfl (by rw [hml]; rfl) (W := 0) (Nat.le_of_eq rfl) (hb hby at_124) (by decide) (by decide) (by decide) (by decide) rfl ?_
      have f275 : Arv Z h272 ob8 k8 .char (4 : Int32) [(.int r_1), (.int r_3), (.int r_5), (.int r_7)] (.int (0 : Int32)) := (((f18.keep K20 (ninS ne_ob8_ob14 nin0)).keep K270 nin0).keep K272 nin0)
      have f276 : Exa Z h272 ob14 "java/lang/String" := ((p20_1.keep K270).keep K272)
      rintro T274 h274 _ L274 X274 e274 ⟨r_274, rfl, M274, K274, p274_0⟩
      have N274 := Fr.app N272 M274
      rcases p274_0 with ⟨rfl, d277⟩ | ⟨rfl, d277⟩
      · refine go_ifN (q := 130) X274 hx (hb hby at_127) (XT.i0_eq_f (by decide)) rfl ?_
        refine go_iload (q := 132) X274 hx (hb hby at_130) (v := r_7) rfl rfl ?_
        refine go_iconst (q := 133) X274 hx (hb hby at_132) (v := (3 : Int32)) (by decide) rfl ?_
        refine go_iload (q := 135) X274 hx (hb hby at_133) (v := (2 : Int32)) rfl rfl ?_
        refine go_iload (q := 137) X274 hx (hb hby at_135) (v := (4 : Int32)) rfl rfl ?_
        have O278 : Old Z n0 h274 := (O273.keep K274 all0)
        refine go_static (q := 140) X274 hx hZ hown (y := (⟨"com/example/harborspread/harborspread/DecimalsIsDigitsPinLaw", "fine", "(CIII)Z"⟩ : MethodName)) (w58 hw) (w59 hw) (w2 hw) (w60 hw) (by decide) e274 (b14_2 l Z a0 hw r_7 (3 : Int32) (2 : Int32) (4 : Int32) h274 n0 O278 (by decide) (by decide)) (argsL := [(.int r_7), (.int (3 : Int32)), (.int (2 : Int32)), (.int (4 : Int32))]) (rest := []) rfl (lenOf pd_16 rfl) rfl (by rw [hml]; rfl) (W := 0) (Nat.le_of_eq rfl) (hb hby at_137) (by decide) (by decide) (by decide) (by decide) rfl ?_
        have f280 : Arv Z h274 ob8 k8 .char (4 : Int32) [(.int r_1), (.int r_3), (.int r_5), (.int r_7)] (.int (0 : Int32)) := (f275.keep K274 nin0)
        have f281 : Exa Z h274 ob14 "java/lang/String" := (f276.keep K274)
        rintro T279 h279 _ L279 X279 e279 ⟨r_279, rfl, M279, K279, p279_0⟩
        have N279 := Fr.app N274 M279
        rcases p279_0 with ⟨rfl, d282⟩ | ⟨rfl, d282⟩
        · refine go_ifN (q := 143) X279 hx (hb hby at_140) (XT.i0_eq_f (by decide)) rfl ?_
          refine go_iconst (q := 144) X279 hx (hb hby at_143) (v := (1 : Int32)) (by decide) rfl ?_
          refine go_goto (q := 148) X279 hx (hb hby at_144) (by decide) (by decide) ?_
          refine go_istore (q := 150) X279 hx (hb hby at_148) (l' := #[.val (.int p0), .val (.int p1), .val (.int p2), .val (.int p3), .val (.int p4), .val (.int r_1), .val (.int r_3), .val (.int r_5), .val (.int r_7), .val (.ref ob8), .val (.ref ob14), .val (.int (2 : Int32)), .val (.int (4 : Int32)), .val (.int (1 : Int32))]) rfl rfl ?_
          refine go_aload (q := 152) X279 hx (hb hby at_150) (v := (.ref ob14)) rfl rfl rfl ?_
          refine go_iload (q := 154) X279 hx (hb hby at_152) (v := (2 : Int32)) rfl rfl ?_
          refine go_iload (q := 156) X279 hx (hb hby at_154) (v := (4 : Int32)) rfl rfl ?_
          have f283 : Str4 Z h279 ob14 r_1 r_3 r_5 r_7 := (Str4.keep (Str4.keep (Str4.keep (Str4.keep p20_0 K270) K272) K274) K279)
          have f284 : Exa Z h279 ob14 "java/lang/String" := (f281.keep K279)
          have O285 : Old Z n0 h279 := (O278.keep K279 all0)
          refine go_static (q := 159) X279 hx hZ hown (y := (⟨"com/example/harborspread/harborspread/Decimals", "isDigits", "(Ljava/lang/String;II)Z"⟩ : MethodName)) (w35 hw) (w36 hw) (w37 hw) (w38 hw) (by decide) e279 (b8_9 l Z a0 hw ob14 zc sf rsf r_1 r_3 r_5 r_7 h279 n0 O285 f283 S_0 hr_1 S_2 S_3 S_4 S_5 p1_0 p3_0 p5_0 p7_0 f284) (argsL := [(.ref ob14), (.int (2 : Int32)), (.int (4 : Int32))]) (rest := []) rfl (lenOf pd_15 rfl) rfl (by rw [hml]; rfl) (W := 0) (Nat.le_of_eq rfl) (hb hby at_156) (by decide) (by decide) (by decide) (by decide) rfl ?_
          have f287 : Arv Z h279 ob8 k8 .char (4 : Int32) [(.int r_1), (.int r_3), (.int r_5), (.int r_7)] (.int (0 : Int32)) := (f280.keep K279 nin0)
          rintro T286 h286 _ L286 X286 e286 ⟨r_286, rfl, M286, K286, p286_0⟩
          have N286 := Fr.app N279 M286
          refine go_iload (q := 161) X286 hx (hb hby at_159) (v := (1 : Int32)) rfl rfl ?_
          refine go_icmpN (q := 164) X286 hx (hb hby at_161) (XT.ii_ne_f (by rcases p286_0 with ⟨q, q2⟩ | ⟨q, q2⟩ <;> first | exact q | (exact absurd ⟨d277, d282⟩ q2))) rfl ?_
          refine go_iconst (q := 165) X286 hx (hb hby at_164) (v := (1 : Int32)) (by decide) rfl ?_
          refine go_goto (q := 169) X286 hx (hb hby at_165) (by decide) (by decide) ?_
          refine go_retI X286 hx hret hlk e286 (hb hby at_169) (by simp) (by decide) (by decide) (by decide) ?_
          exact ⟨(by first | rfl | simp [d277, d282] | simp_all), N286, (((((((((((((((((Keep.refl h0 []).trans K1 all0).trans K3 all0).trans K5 all0).trans K7 all0).ext E8).wr W10 (Or.inr sn8)).wr W11 (Or.inr sn8)).wr W12 (Or.inr sn8)).wr W13 (Or.inr sn8)).ext E14).trans K20 (allS (P := fun x => x ∈ [] ∨ h0.size ≤ x) (Or.inr sn14) all0)).trans K270 all0).trans K272 all0).trans K274 all0).trans K279 all0).trans K286 all0)⟩
        · refine go_ifY (q := 147) X279 hx (hb hby at_140) (XT.i0_eq_t (by decide)) (by decide) (by decide) ?_
          refine go_iconst (q := 148) X279 hx (hb hby at_147) (v := (0 : Int32)) (by decide) rfl ?_
          refine go_istore (q := 150) X279 hx (hb hby at_148) (l' := #[.val (.int p0), .val (.int p1), .val (.int p2), .val (.int p3), .val (.int p4), .val (.int r_1), .val (.int r_3), .val (.int r_5), .val (.int r_7), .val (.ref ob8), .val (.ref ob14), .val (.int (2 : Int32)), .val (.int (4 : Int32)), .val (.int (0 : Int32))]) rfl rfl ?_
          refine go_aload (q := 152) X279 hx (hb hby at_150) (v := (.ref ob14)) rfl rfl rfl ?_
          refine go_iload (q := 154) X279 hx (hb hby at_152) (v := (2 : Int32)) rfl rfl ?_
          refine go_iload (q := 156) X279 hx (hb hby at_154) (v := (4 : Int32)) rfl rfl ?_
          have f288 : Str4 Z h279 ob14 r_1 r_3 r_5 r_7 := (Str4.keep (Str4.keep (Str4.keep (Str4.keep p20_0 K270) K272) K274) K279)
          have f289 : Exa Z h279 ob14 "java/lang/String" := (f281.keep K279)
          have O290 : Old Z n0 h279 := (O278.keep K279 all0)
          refine go_static (q := 159) X279 hx hZ hown (y := (⟨"com/example/harborspread/harborspread/Decimals", "isDigits", "(Ljava/lang/String;II)Z"⟩ : MethodName)) (w35 hw) (w36 hw) (w37 hw) (w38 hw) (by decide) e279 (b8_9 l Z a0 hw ob14 zc sf rsf r_1 r_3 r_5 r_7 h279 n0 O290 f288 S_0 hr_1 S_2 S_3 S_4 S_5 p1_0 p3_0 p5_0 p7_0 f289) (argsL := [(.ref ob14), (.int (2 : Int32)), (.int (4 : Int32))]) (rest := []) rfl (lenOf pd_15 rfl) rfl (by rw [hml]; rfl) (W := 0) (Nat.le_of_eq rfl) (hb hby at_156) (by decide) (by decide) (by decide) (by decide) rfl ?_
          have f292 : Arv Z h279 ob8 k8 .char (4 : Int32) [(.int r_1), (.int r_3), (.int r_5), (.int r_7)] (.int (0 : Int32)) := (f280.keep K279 nin0)
          rintro T291 h291 _ L291 X291 e291 ⟨r_291, rfl, M291, K291, p291_0⟩
          have N291 := Fr.app N279 M291
          refine go_iload (q := 161) X291 hx (hb hby at_159) (v := (0 : Int32)) rfl rfl ?_
          refine go_icmpN (q := 164) X291 hx (hb hby at_161) (XT.ii_ne_f (by rcases p291_0 with ⟨q, q2⟩ | ⟨q, q2⟩ <;> first | exact q | (exact absurd (q2.2) d282))) rfl ?_
          refine go_iconst (q := 165) X291 hx (hb hby at_164) (v := (1 : Int32)) (by decide) rfl ?_
          refine go_goto (q := 169) X291 hx (hb hby at_165) (by decide) (by decide) ?_
          refine go_retI X291 hx hret hlk e291 (hb hby at_169) (by simp) (by decide) (by decide) (by decide) ?_
          exact ⟨(by first | rfl | simp [d277, d282] | simp_all), N291, (((((((((((((((((Keep.refl h0 []).trans K1 all0).trans K3 all0).trans K5 all0).trans K7 all0).ext E8).wr W10 (Or.inr sn8)).wr W11 (Or.inr sn8)).wr W12 (Or.inr sn8)).wr W13 (Or.inr sn8)).ext E14).trans K20 (allS (P := fun x => x ∈ [] ∨ h0.size ≤ x) (Or.inr sn14) all0)).trans K270 all0).trans K272 all0).trans K274 all0).trans K279 all0).trans K291 all0)⟩
      · refine go_ifY (q := 147) X274 hx (hb hby at_127) (XT.i0_eq_t (by decide)) (by decide) (by decide) ?_
        refine go_iconst (q := 148) X274 hx (hb hby at_147) (v := (0 : Int32)) (by decide) rfl ?_
        refine go_istore (q := 150) X274 hx (hb hby at_148) (l' := #[.val (.int p0), .val (.int p1), .val (.int p2), .val (.int p3), .val (.int p4), .val (.int r_1), .val (.int r_3), .val (.int r_5), .val (.int r_7), .val (.ref ob8), .val (.ref ob14), .val (.int (2 : Int32)), .val (.int (4 : Int32)), .val (.int (0 : Int32))]) rfl rfl ?_
        refine go_aload (q := 152) X274 hx (hb hby at_150) (v := (.ref ob14)) rfl rfl rfl ?_
        refine go_iload (q := 154) X274 hx (hb hby at_152) (v := (2 : Int32)) rfl rfl ?_
        refine go_iload (q := 156) X274 hx (hb hby at_154) (v := (4 : Int32)) rfl rfl ?_
        have f293 : Str4 Z h274 ob14 r_1 r_3 r_5 r_7 := (Str4.keep (Str4.keep (Str4.keep p20_0 K270) K272) K274)
        have f294 : Exa Z h274 ob14 "java/lang/String" := (f276.keep K274)
        have O295 : Old Z n0 h274 := (O273.keep K274 all0)
        refine go_static (q := 159) X274 hx hZ hown (y := (⟨"com/example/harborspread/harborspread/Decimals", "isDigits", "(Ljava/lang/String;II)Z"⟩ : MethodName)) (w35 hw) (w36 hw) (w37 hw) (w38 hw) (by decide) e274 (b8_9 l Z a0 hw ob14 zc sf rsf r_1 r_3 r_5 r_7 h274 n0 O295 f293 S_0 hr_1 S_2 S_3 S_4 S_5 p1_0 p3_0 p5_0 p7_0 f294) (argsL := [(.ref ob14), (.int (2 : Int32)), (.int (4 : Int32))]) (rest := []) rfl (lenOf pd_15 rfl) rfl (by rw [hml]; rfl) (W := 0) (Nat.le_of_eq rfl) (hb hby at_156) (by decide) (by decide) (by decide) (by decide) rfl ?_
        have f297 : Arv Z h274 ob8 k8 .char (4 : Int32) [(.int r_1), (.int r_3), (.int r_5), (.int r_7)] (.int (0 : Int32)) := (f275.keep K274 nin0)
        rintro T296 h296 _ L296 X296 e296 ⟨r_296, rfl, M296, K296, p296_0⟩
        have N296 := Fr.app N274 M296
        refine go_iload (q := 161) X296 hx (hb hby at_159) (v := (0 : Int32)) rfl rfl ?_
        refine go_icmpN (q := 164) X296 hx (hb hby at_161) (XT.ii_ne_f (by rcases p296_0 with ⟨q, q2⟩ | ⟨q, q2⟩ <;> first | exact q | (exact absurd (q2.1) d277))) rfl ?_
        refine go_iconst (q := 165) X296 hx (hb hby at_164) (v := (1 : Int32)) (by decide) rfl ?_
        refine go_goto (q := 169) X296 hx (hb hby at_165) (by decide) (by decide) ?_
        refine go_retI X296 hx hret hlk e296 (hb hby at_169) (by simp) (by decide) (by decide) (by decide) ?_
        exact ⟨(by first | rfl | simp [d277] | simp_all), N296, ((((((((((((((((Keep.refl h0 []).trans K1 all0).trans K3 all0).trans K5 all0).trans K7 all0).ext E8).wr W10 (Or.inr sn8)).wr W11 (Or.inr sn8)).wr W12 (Or.inr sn8)).wr W13 (Or.inr sn8)).ext E14).trans K20 (allS (P := fun x => x ∈ [] ∨ h0.size ≤ x) (Or.inr sn14) all0)).trans K270 all0).trans K272 all0).trans K274 all0).trans K296 all0)⟩
  · rw [c71]
    refine go_istore (q := 73) X20 hx (hb hby at_71) (l' := #[.val (.int p0), .val (.int p1), .val (.int p2), .val (.int p3), .val (.int p4), .val (.int r_1), .val (.int r_3), .val (.int r_5), .val (.int r_7), .val (.ref ob8), .val (.ref ob14), .val (.int (3 : Int32)), .unset, .unset]) rfl rfl ?_
    refine go_iload (q := 75) X20 hx (hb hby at_73) (v := p4) rfl rfl ?_
    refine go_iconst (q := 76) X20 hx (hb hby at_75) (v := (3 : Int32)) (by decide) rfl ?_
    refine go_iushr (q := 77) X20 hx (hb hby at_76) (v := (XT.ushr p4 (3 : Int32))) rfl rfl ?_
    refine go_bipush (q := 79) X20 hx (hb hby at_77) (v := (7 : Int32)) (by decide) rfl ?_
    refine go_iand (q := 80) X20 hx (hb hby at_79) (v := ((XT.ushr p4 (3 : Int32)) &&& (7 : Int32))) rfl rfl ?_
    refine go_iconst (q := 81) X20 hx (hb hby at_80) (v := (5 : Int32)) (by decide) rfl ?_
    refine go_irem (q := 82) X20 hx (hb hby at_81) (by decide) rfl ?_
    rcases own_t5 p4 with c82 | c82 | c82 | c82 | c82
    · rw [c82]
      refine go_istore (q := 84) X20 hx (hb hby at_82) (l' := #[.val (.int p0), .val (.int p1), .val (.int p2), .val (.int p3), .val (.int p4), .val (.int r_1), .val (.int r_3), .val (.int r_5), .val (.int r_7), .val (.ref ob8), .val (.ref ob14), .val (.int (3 : Int32)), .val (.int (0 : Int32)), .unset]) rfl rfl ?_
      refine go_iload (q := 86) X20 hx (hb hby at_84) (v := (3 : Int32)) rfl rfl ?_
      refine go_iload (q := 88) X20 hx (hb hby at_86) (v := (0 : Int32)) rfl rfl ?_
      refine go_icmpY (q := 147) X20 hx (hb hby at_88) (XT.ii_ge_t (by decide)) (by decide) (by decide) ?_
      refine go_iconst (q := 148) X20 hx (hb hby at_147) (v := (0 : Int32)) (by decide) rfl ?_
      refine go_istore (q := 150) X20 hx (hb hby at_148) (l' := #[.val (.int p0), .val (.int p1), .val (.int p2), .val (.int p3), .val (.int p4), .val (.int r_1), .val (.int r_3), .val (.int r_5), .val (.int r_7), .val (.ref ob8), .val (.ref ob14), .val (.int (3 : Int32)), .val (.int (0 : Int32)), .val (.int (0 : Int32))]) rfl rfl ?_
      refine go_aload (q := 152) X20 hx (hb hby at_150) (v := (.ref ob14)) rfl rfl rfl ?_
      refine go_iload (q := 154) X20 hx (hb hby at_152) (v := (3 : Int32)) rfl rfl ?_
      refine go_iload (q := 156) X20 hx (hb hby at_154) (v := (0 : Int32)) rfl rfl ?_
      have O298 : Old Z n0 h20 := (O19.keep K20 (allS fr14 all0))
      refine go_static (q := 159) X20 hx hZ hown (y := (⟨"com/example/harborspread/harborspread/Decimals", "isDigits", "(Ljava/lang/String;II)Z"⟩ : MethodName)) (w35 hw) (w36 hw) (w37 hw) (w38 hw) (by decide) e20 (b8 l Z a0 hw ob14 (3 : Int32) (0 : Int32) h20 n0 O298 (by decide)) (argsL := [(.ref ob14), (.int (3 : Int32)), (.int (0 : Int32))]) (rest := []) rfl (lenOf pd_15 rfl) rfl (by rw [hml]; rfl) (W := 0) (Nat.le_of_eq rfl) (hb hby at_156) (by decide) (by decide) (by decide) (by decide) rfl ?_
      rintro T299 h299 _ L299 X299 e299 ⟨rfl, M299, K299⟩
      have N299 := Fr.app N20 M299
      refine go_iload (q := 161) X299 hx (hb hby at_159) (v := (0 : Int32)) rfl rfl ?_
      refine go_icmpN (q := 164) X299 hx (hb hby at_161) (XT.ii_ne_f (by decide)) rfl ?_
      refine go_iconst (q := 165) X299 hx (hb hby at_164) (v := (1 : Int32)) (by decide) rfl ?_
      refine go_goto (q := 169) X299 hx (hb hby at_165) (by decide) (by decide) ?_
      refine go_retI X299 hx hret hlk e299 (hb hby at_169) (by simp) (by decide) (by decide) (by decide) ?_
      exact ⟨rfl, N299, (((((((((((((Keep.refl h0 []).trans K1 all0).trans K3 all0).trans K5 all0).trans K7 all0).ext E8).wr W10 (Or.inr sn8)).wr W11 (Or.inr sn8)).wr W12 (Or.inr sn8)).wr W13 (Or.inr sn8)).ext E14).trans K20 (allS (P := fun x => x ∈ [] ∨ h0.size ≤ x) (Or.inr sn14) all0)).trans K299 all0)⟩
    · rw [c82]
      refine go_istore (q := 84) X20 hx (hb hby at_82) (l' := #[.val (.int p0), .val (.int p1), .val (.int p2), .val (.int p3), .val (.int p4), .val (.int r_1), .val (.int r_3), .val (.int r_5), .val (.int r_7), .val (.ref ob8), .val (.ref ob14), .val (.int (3 : Int32)), .val (.int (1 : Int32)), .unset]) rfl rfl ?_
      refine go_iload (q := 86) X20 hx (hb hby at_84) (v := (3 : Int32)) rfl rfl ?_
      refine go_iload (q := 88) X20 hx (hb hby at_86) (v := (1 : Int32)) rfl rfl ?_
      refine go_icmpY (q := 147) X20 hx (hb hby at_88) (XT.ii_ge_t (by decide)) (by decide) (by decide) ?_
      refine go_iconst (q := 148) X20 hx (hb hby at_147) (v := (0 : Int32)) (by decide) rfl ?_
      refine go_istore (q := 150) X20 hx (hb hby at_148) (l' := #[.val (.int p0), .val (.int p1), .val (.int p2), .val (.int p3), .val (.int p4), .val (.int r_1), .val (.int r_3), .val (.int r_5), .val (.int r_7), .val (.ref ob8), .val (.ref ob14), .val (.int (3 : Int32)), .val (.int (1 : Int32)), .val (.int (0 : Int32))]) rfl rfl ?_
      refine go_aload (q := 152) X20 hx (hb hby at_150) (v := (.ref ob14)) rfl rfl rfl ?_
      refine go_iload (q := 154) X20 hx (hb hby at_152) (v := (3 : Int32)) rfl rfl ?_
      refine go_iload (q := 156) X20 hx (hb hby at_154) (v := (1 : Int32)) rfl rfl ?_
      have O300 : Old Z n0 h20 := (O19.keep K20 (allS fr14 all0))
      refine go_static (q := 159) X20 hx hZ hown (y := (⟨"com/example/harborspread/harborspread/Decimals", "isDigits", "(Ljava/lang/String;II)Z"⟩ : MethodName)) (w35 hw) (w36 hw) (w37 hw) (w38 hw) (by decide) e20 (b8 l Z a0 hw ob14 (3 : Int32) (1 : Int32) h20 n0 O300 (by decide)) (argsL := [(.ref ob14), (.int (3 : Int32)), (.int (1 : Int32))]) (rest := []) rfl (lenOf pd_15 rfl) rfl (by rw [hml]; rfl) (W := 0) (Nat.le_of_eq rfl) (hb hby at_156) (by decide) (by decide) (by decide) (by decide) rfl ?_
      rintro T301 h301 _ L301 X301 e301 ⟨rfl, M301, K301⟩
      have N301 := Fr.app N20 M301
      refine go_iload (q := 161) X301 hx (hb hby at_159) (v := (0 : Int32)) rfl rfl ?_
      refine go_icmpN (q := 164) X301 hx (hb hby at_161) (XT.ii_ne_f (by decide)) rfl ?_
      refine go_iconst (q := 165) X301 hx (hb hby at_164) (v := (1 : Int32)) (by decide) rfl ?_
      refine go_goto (q := 169) X301 hx (hb hby at_165) (by decide) (by decide) ?_
      refine go_retI X301 hx hret hlk e301 (hb hby at_169) (by simp) (by decide) (by decide) (by decide) ?_
      exact ⟨rfl, N301, (((((((((((((Keep.refl h0 []).trans K1 all0).trans K3 all0).trans K5 all0).trans K7 all0).ext E8).wr W10 (Or.inr sn8)).wr W11 (Or.inr sn8)).wr W12 (Or.inr sn8)).wr W13 (Or.inr sn8)).ext E14).trans K20 (allS (P := fun x => x ∈ [] ∨ h0.size ≤ x) (Or.inr sn14) all0)).trans K301 all0)⟩
    · rw [c82]
      refine go_istore (q := 84) X20 hx (hb hby at_82) (l' := #[.val (.int p0), .val (.int p1), .val (.int p2), .val (.int p3), .val (.int p4), .val (.int r_1), .val (.int r_3), .val (.int r_5), .val (.int r_7), .val (.ref ob8), .val (.ref ob14), .val (.int (3 : Int32)), .val (.int (2 : Int32)), .unset]) rfl rfl ?_
      refine go_iload (q := 86) X20 hx (hb hby at_84) (v := (3 : Int32)) rfl rfl ?_
      refine go_iload (q := 88) X20 hx (hb hby at_86) (v := (2 : Int32)) rfl rfl ?_
      refine go_icmpY (q := 147) X20 hx (hb hby at_88) (XT.ii_ge_t (by decide)) (by decide) (by decide) ?_
      refine go_iconst (q := 148) X20 hx (hb hby at_147) (v := (0 : Int32)) (by decide) rfl ?_
      refine go_istore (q := 150) X20 hx (hb hby at_148) (l' := #[.val (.int p0), .val (.int p1), .val (.int p2), .val (.int p3), .val (.int p4), .val (.int r_1), .val (.int r_3), .val (.int r_5), .val (.int r_7), .val (.ref ob8), .val (.ref ob14), .val (.int (3 : Int32)), .val (.int (2 : Int32)), .val (.int (0 : Int32))]) rfl rfl ?_
      refine go_aload (q := 152) X20 hx (hb hby at_150) (v := (.ref ob14)) rfl rfl rfl ?_
      refine go_iload (q := 154) X20 hx (hb hby at_152) (v := (3 : Int32)) rfl rfl ?_
      refine go_iload (q := 156) X20 hx (hb hby at_154) (v := (2 : Int32)) rfl rfl ?_
      have O302 : Old Z n0 h20 := (O19.keep K20 (allS fr14 all0))
      refine go_static (q := 159) X20 hx hZ hown (y := (⟨"com/example/harborspread/harborspread/Decimals", "isDigits", "(Ljava/lang/String;II)Z"⟩ : MethodName)) (w35 hw) (w36 hw) (w37 hw) (w38 hw) (by decide) e20 (b8 l Z a0 hw ob14 (3 : Int32) (2 : Int32) h20 n0 O302 (by decide)) (argsL := [(.ref ob14), (.int (3 : Int32)), (.int (2 : Int32))]) (rest := []) rfl (lenOf pd_15 rfl) rfl (by rw [hml]; rfl) (W := 0) (Nat.le_of_eq rfl) (hb hby at_156) (by decide) (by decide) (by decide) (by decide) rfl ?_
      rintro T303 h303 _ L303 X303 e303 ⟨rfl, M303, K303⟩
      have N303 := Fr.app N20 M303
      refine go_iload (q := 161) X303 hx (hb hby at_159) (v := (0 : Int32)) rfl rfl ?_
      refine go_icmpN (q := 164) X303 hx (hb hby at_161) (XT.ii_ne_f (by decide)) rfl ?_
      refine go_iconst (q := 165) X303 hx (hb hby at_164) (v := (1 : Int32)) (by decide) rfl ?_
      refine go_goto (q := 169) X303 hx (hb hby at_165) (by decide) (by decide) ?_
      refine go_retI X303 hx hret hlk e303 (hb hby at_169) (by simp) (by decide) (by decide) (by decide) ?_
      exact ⟨rfl, N303, (((((((((((((Keep.refl h0 []).trans K1 all0).trans K3 all0).trans K5 all0).trans K7 all0).ext E8).wr W10 (Or.inr sn8)).wr W11 (Or.inr sn8)).wr W12 (Or.inr sn8)).wr W13 (Or.inr sn8)).ext E14).trans K20 (allS (P := fun x => x ∈ [] ∨ h0.size ≤ x) (Or.inr sn14) all0)).trans K303 all0)⟩
    · rw [c82]
      refine go_istore (q := 84) X20 hx (hb hby at_82) (l' := #[.val (.int p0), .val (.int p1), .val (.int p2), .val (.int p3), .val (.int p4), .val (.int r_1), .val (.int r_3), .val (.int r_5), .val (.int r_7), .val (.ref ob8), .val (.ref ob14), .val (.int (3 : Int32)), .val (.int (3 : Int32)), .unset]) rfl rfl ?_
      refine go_iload (q := 86) X20 hx (hb hby at_84) (v := (3 : Int32)) rfl rfl ?_
      refine go_iload (q := 88) X20 hx (hb hby at_86) (v := (3 : Int32)) rfl rfl ?_
      refine go_icmpY (q := 147) X20 hx (hb hby at_88) (XT.ii_ge_t (by decide)) (by decide) (by decide) ?_
      refine go_iconst (q := 148) X20 hx (hb hby at_147) (v := (0 : Int32)) (by decide) rfl ?_
      refine go_istore (q := 150) X20 hx (hb hby at_148) (l' := #[.val (.int p0), .val (.int p1), .val (.int p2), .val (.int p3), .val (.int p4), .val (.int r_1), .val (.int r_3), .val (.int r_5), .val (.int r_7), .val (.ref ob8), .val (.ref ob14), .val (.int (3 : Int32)), .val (.int (3 : Int32)), .val (.int (0 : Int32))]) rfl rfl ?_
      refine go_aload (q := 152) X20 hx (hb hby at_150) (v := (.ref ob14)) rfl rfl rfl ?_
      refine go_iload (q := 154) X20 hx (hb hby at_152) (v := (3 : Int32)) rfl rfl ?_
      refine go_iload (q := 156) X20 hx (hb hby at_154) (v := (3 : Int32)) rfl rfl ?_
      have O304 : Old Z n0 h20 := (O19.keep K20 (allS fr14 all0))
      refine go_static (q := 159) X20 hx hZ hown (y := (⟨"com/example/harborspread/harborspread/Decimals", "isDigits", "(Ljava/lang/String;II)Z"⟩ : MethodName)) (w35 hw) (w36 hw) (w37 hw) (w38 hw) (by decide) e20 (b8 l Z a0 hw ob14 (3 : Int32) (3 : Int32) h20 n0 O304 (by decide)) (argsL := [(.ref ob14), (.int (3 : Int32)), (.int (3 : Int32))]) (rest := []) rfl (lenOf pd_15 rfl) rfl (by rw [hml]; rfl) (W := 0) (Nat.le_of_eq rfl) (hb hby at_156) (by decide) (by decide) (by decide) (by decide) rfl ?_
      rintro T305 h305 _ L305 X305 e305 ⟨rfl, M305, K305⟩
      have N305 := Fr.app N20 M305
      refine go_iload (q := 161) X305 hx (hb hby at_159) (v := (0 : Int32)) rfl rfl ?_
      refine go_icmpN (q := 164) X305 hx (hb hby at_161) (XT.ii_ne_f (by decide)) rfl ?_
      refine go_iconst (q := 165) X305 hx (hb hby at_164) (v := (1 : Int32)) (by decide) rfl ?_
      refine go_goto (q := 169) X305 hx (hb hby at_165) (by decide) (by decide) ?_
      refine go_retI X305 hx hret hlk e305 (hb hby at_169) (by simp) (by decide) (by decide) (by decide) ?_
      exact ⟨rfl, N305, (((((((((((((Keep.refl h0 []).trans K1 all0).trans K3 all0).trans K5 all0).trans K7 all0).ext E8).wr W10 (Or.inr sn8)).wr W11 (Or.inr sn8)).wr W12 (Or.inr sn8)).wr W13 (Or.inr sn8)).ext E14).trans K20 (allS (P := fun x => x ∈ [] ∨ h0.size ≤ x) (Or.inr sn14) all0)).trans K305 all0)⟩
    · rw [c82]
      refine go_istore (q := 84) X20 hx (hb hby at_82) (l' := #[.val (.int p0), .val (.int p1), .val (.int p2), .val (.int p3), .val (.int p4), .val (.int r_1), .val (.int r_3), .val (.int r_5), .val (.int r_7), .val (.ref ob8), .val (.ref ob14), .val (.int (3 : Int32)), .val (.int (4 : Int32)), .unset]) rfl rfl ?_
      refine go_iload (q := 86) X20 hx (hb hby at_84) (v := (3 : Int32)) rfl rfl ?_
      refine go_iload (q := 88) X20 hx (hb hby at_86) (v := (4 : Int32)) rfl rfl ?_
      refine go_icmpN (q := 91) X20 hx (hb hby at_88) (XT.ii_ge_f (by decide)) rfl ?_
      refine go_iload (q := 93) X20 hx (hb hby at_91) (v := r_1) rfl rfl ?_
      refine go_iconst (q := 94) X20 hx (hb hby at_93) (v := (0 : Int32)) (by decide) rfl ?_
      refine go_iload (q := 96) X20 hx (hb hby at_94) (v := (3 : Int32)) rfl rfl ?_
      refine go_iload (q := 98) X20 hx (hb hby at_96) (v := (4 : Int32)) rfl rfl ?_
      have O306 : Old Z n0 h20 := (O19.keep K20 (allS fr14 all0))
      refine go_static (q := 101) X20 hx hZ hown (y := (⟨"com/example/harborspread/harborspread/DecimalsIsDigitsPinLaw", "fine", "(CIII)Z"⟩ : MethodName)) (w58 hw) (w59 hw) (w2 hw) (w60 hw) (by decide) e20 (b14 l Z a0 hw r_1 (0 : Int32) (3 : Int32) (4 : Int32) h20 n0 O306 (by decide)) (argsL := [(.int r_1), (.int (0 : Int32)), (.int (3 : Int32)), (.int (4 : Int32))]) (rest := []) rfl (lenOf pd_16 rfl) rfl (by rw [hml]; rfl) (W := 0) (Nat.le_of_eq rfl) (hb hby at_98) (by decide) (by decide) (by decide) (by decide) rfl ?_
      rintro T307 h307 _ L307 X307 e307 ⟨rfl, M307, K307⟩
      have N307 := Fr.app N20 M307
      refine go_ifN (q := 104) X307 hx (hb hby at_101) (XT.i0_eq_f (by decide)) rfl ?_
      refine go_iload (q := 106) X307 hx (hb hby at_104) (v := r_3) rfl rfl ?_
      refine go_iconst (q := 107) X307 hx (hb hby at_106) (v := (1 : Int32)) (by decide) rfl ?_
      refine go_iload (q := 109) X307 hx (hb hby at_107) (v := (3 : Int32)) rfl rfl ?_
      refine go_iload (q := 111) X307 hx (hb hby at_109) (v := (4 : Int32)) rfl rfl ?_
      have O308 : Old Z n0 h307 := (O306.keep K307 all0)
      refine go_static (q := 114) X307 hx hZ hown (y := (⟨"com/example/harborspread/harborspread/DecimalsIsDigitsPinLaw", "fine", "(CIII)Z"⟩ : MethodName)) (w58 hw) (w59 hw) (w2 hw) (w60 hw) (by decide) e307 (b14 l Z a0 hw r_3 (1 : Int32) (3 : Int32) (4 : Int32) h307 n0 O308 (by decide)) (argsL := [(.int r_3), (.int (1 : Int32)), (.int (3 : Int32)), (.int (4 : Int32))]) (rest := []) rfl (lenOf pd_16 rfl) rfl (by rw [hml]; rfl) (W := 0) (Nat.le_of_eq rfl) (hb hby at_111) (by decide) (by decide) (by decide) (by decide) rfl ?_
      rintro T309 h309 _ L309 X309 e309 ⟨rfl, M309, K309⟩
      have N309 := Fr.app N307 M309
      refine go_ifN (q := 117) X309 hx (hb hby at_114) (XT.i0_eq_f (by decide)) rfl ?_
      refine go_iload (q := 119) X309 hx (hb hby at_117) (v := r_5) rfl rfl ?_
      refine go_iconst (q := 120) X309 hx (hb hby at_119) (v := (2 : Int32)) (by decide) rfl ?_
      refine go_iload (q := 122) X309 hx (hb hby at_120) (v := (3 : Int32)) rfl rfl ?_
      refine go_iload (q := 124) X309 hx (hb hby at_122) (v := (4 : Int32)) rfl rfl ?_
      have O310 : Old Z n0 h309 := (O308.keep K309 all0)
      refine go_static (q := 127) X309 hx hZ hown (y := (⟨"com/example/harborspread/harborspread/DecimalsIsDigitsPinLaw", "fine", "(CIII)Z"⟩ : MethodName)) (w58 hw) (w59 hw) (w2 hw) (w60 hw) (by decide) e309 (b14 l Z a0 hw r_5 (2 : Int32) (3 : Int32) (4 : Int32) h309 n0 O310 (by decide)) (argsL := [(.int r_5), (.int (2 : Int32)), (.int (3 : Int32)), (.int (4 : Int32))]) (rest := []) rfl (lenOf pd_16 rfl) rfl (by rw [hml]; rfl) (W := 0) (Nat.le_of_eq rfl) (hb hby at_124) (by decide) (by decide) (by decide) (by decide) rfl ?_
      rintro T311 h311 _ L311 X311 e311 ⟨rfl, M311, K311⟩
      have N311 := Fr.app N309 M311
      refine go_ifN (q := 130) X311 hx (hb hby at_127) (XT.i0_eq_f (by decide)) rfl ?_
      refine go_iload (q := 132) X311 hx (hb hby at_130) (v := r_7) rfl rfl ?_
      refine go_iconst (q := 133) X311 hx (hb hby at_132) (v := (3 : Int32)) (by decide) rfl ?_
      refine go_iload (q := 135) X311 hx (hb hby at_133) (v := (3 : Int32)) rfl rfl ?_
      refine go_iload (q := 137) X311 hx (hb hby at_135) (v := (4 : Int32)) rfl rfl ?_
      have O312 : Old Z n0 h311 := (O310.keep K311 all0)
      refine go_static (q := 140) X311 hx hZ hown (y := (⟨"com/example/harborspread/harborspread/DecimalsIsDigitsPinLaw", "fine", "(CIII)Z"⟩ : MethodName)) (w58 hw) (w59 hw) (w2 hw) (w60 hw) (by decide) e311 (b14_2 l Z a0 hw r_7 (3 : Int32) (3 : Int32) (4 : Int32) h311 n0 O312 (by decide) (by decide)) (argsL := [(.int r_7), (.int (3 : Int32)), (.int (3 : Int32)), (.int (4 : Int32))]) (rest := []) rfl (lenOf pd_16 rfl) rfl (by rw [hml]; rfl) (W := 0) (Nat.le_of_eq rfl) (hb hby at_137) (by decide) (by decide) (by decide) (by decide) rfl ?_
      have f314 : Arv Z h311 ob8 k8 .char (4 : Int32) [(.int r_1), (.int r_3), (.int r_5), (.int r_7)] (.int (0 : Int32)) := ((((f18.keep K20 (ninS ne_ob8_ob14 nin0)).keep K307 nin0).keep K309 nin0).keep K311 nin0)
      have f315 : Exa Z h311 ob14 "java/lang/String" := (((p20_1.keep K307).keep K309).keep K311)
      rintro T313 h313 _ L313 X313 e313 ⟨r_313, rfl, M313, K313, p313_0⟩
      have N313 := Fr.app N311 M313
      rcases p313_0 with ⟨rfl, d316⟩ | ⟨rfl, d316⟩
      · refine go_ifN (q := 143) X313 hx (hb hby at_140) (XT.i0_eq_f (by decide)) rfl ?_
        refine go_iconst (q := 144) X313 hx (hb hby at_143) (v := (1 : Int32)) (by decide) rfl ?_
        refine go_goto (q := 148) X313 hx (hb hby at_144) (by decide) (by decide) ?_
        refine go_istore (q := 150) X313 hx (hb hby at_148) (l' := #[.val (.int p0), .val (.int p1), .val (.int p2), .val (.int p3), .val (.int p4), .val (.int r_1), .val (.int r_3), .val (.int r_5), .val (.int r_7), .val (.ref ob8), .val (.ref ob14), .val (.int (3 : Int32)), .val (.int (4 : Int32)), .val (.int (1 : Int32))]) rfl rfl ?_
        refine go_aload (q := 152) X313 hx (hb hby at_150) (v := (.ref ob14)) rfl rfl rfl ?_
        refine go_iload (q := 154) X313 hx (hb hby at_152) (v := (3 : Int32)) rfl rfl ?_
        refine go_iload (q := 156) X313 hx (hb hby at_154) (v := (4 : Int32)) rfl rfl ?_
        have f317 : Str4 Z h313 ob14 r_1 r_3 r_5 r_7 := (Str4.keep (Str4.keep (Str4.keep (Str4.keep p20_0 K307) K309) K311) K313)
        have f318 : Exa Z h313 ob14 "java/lang/String" := (f315.keep K313)
        have O319 : Old Z n0 h313 := (O312.keep K313 all0)
        refine go_static (q := 159) X313 hx hZ hown (y := (⟨"com/example/harborspread/harborspread/Decimals", "isDigits", "(Ljava/lang/String;II)Z"⟩ : MethodName)) (w35 hw) (w36 hw) (w37 hw) (w38 hw) (by decide) e313 (b8_10 l Z a0 hw ob14 zc sf rsf r_1 r_3 r_5 r_7 h313 n0 O319 f317 S_0 hr_1 S_2 S_3 S_4 S_5 p1_0 p3_0 p5_0 p7_0 f318) (argsL := [(.ref ob14), (.int (3 : Int32)), (.int (4 : Int32))]) (rest := []) rfl (lenOf pd_15 rfl) rfl (by rw [hml]; rfl) (W := 0) (Nat.le_of_eq rfl) (hb hby at_156) (by decide) (by decide) (by decide) (by decide) rfl ?_
        have f321 : Arv Z h313 ob8 k8 .char (4 : Int32) [(.int r_1), (.int r_3), (.int r_5), (.int r_7)] (.int (0 : Int32)) := (f314.keep K313 nin0)
        rintro T320 h320 _ L320 X320 e320 ⟨r_320, rfl, M320, K320, p320_0⟩
        have N320 := Fr.app N313 M320
        refine go_iload (q := 161) X320 hx (hb hby at_159) (v := (1 : Int32)) rfl rfl ?_
        refine go_icmpN (q := 164) X320 hx (hb hby at_161) (XT.ii_ne_f (by rcases p320_0 with ⟨q, q2⟩ | ⟨q, q2⟩ <;> first | exact q | (exact absurd d316 q2))) rfl ?_
        refine go_iconst (q := 165) X320 hx (hb hby at_164) (v := (1 : Int32)) (by decide) rfl ?_
        refine go_goto (q := 169) X320 hx (hb hby at_165) (by decide) (by decide) ?_
        refine go_retI X320 hx hret hlk e320 (hb hby at_169) (by simp) (by decide) (by decide) (by decide) ?_
        exact ⟨(by first | rfl | simp [d316] | simp_all), N320, (((((((((((((((((Keep.refl h0 []).trans K1 all0).trans K3 all0).trans K5 all0).trans K7 all0).ext E8).wr W10 (Or.inr sn8)).wr W11 (Or.inr sn8)).wr W12 (Or.inr sn8)).wr W13 (Or.inr sn8)).ext E14).trans K20 (allS (P := fun x => x ∈ [] ∨ h0.size ≤ x) (Or.inr sn14) all0)).trans K307 all0).trans K309 all0).trans K311 all0).trans K313 all0).trans K320 all0)⟩
      · refine go_ifY (q := 147) X313 hx (hb hby at_140) (XT.i0_eq_t (by decide)) (by decide) (by decide) ?_
        refine go_iconst (q := 148) X313 hx (hb hby at_147) (v := (0 : Int32)) (by decide) rfl ?_
        refine go_istore (q := 150) X313 hx (hb hby at_148) (l' := #[.val (.int p0), .val (.int p1), .val (.int p2), .val (.int p3), .val (.int p4), .val (.int r_1), .val (.int r_3), .val (.int r_5), .val (.int r_7), .val (.ref ob8), .val (.ref ob14), .val (.int (3 : Int32)), .val (.int (4 : Int32)), .val (.int (0 : Int32))]) rfl rfl ?_
        refine go_aload (q := 152) X313 hx (hb hby at_150) (v := (.ref ob14)) rfl rfl rfl ?_
        refine go_iload (q := 154) X313 hx (hb hby at_152) (v := (3 : Int32)) rfl rfl ?_
        refine go_iload (q := 156) X313 hx (hb hby at_154) (v := (4 : Int32)) rfl rfl ?_
        have f322 : Str4 Z h313 ob14 r_1 r_3 r_5 r_7 := (Str4.keep (Str4.keep (Str4.keep (Str4.keep p20_0 K307) K309) K311) K313)
        have f323 : Exa Z h313 ob14 "java/lang/String" := (f315.keep K313)
        have O324 : Old Z n0 h313 := (O312.keep K313 all0)
        refine go_static (q := 159) X313 hx hZ hown (y := (⟨"com/example/harborspread/harborspread/Decimals", "isDigits", "(Ljava/lang/String;II)Z"⟩ : MethodName)) (w35 hw) (w36 hw) (w37 hw) (w38 hw) (by decide) e313 (b8_10 l Z a0 hw ob14 zc sf rsf r_1 r_3 r_5 r_7 h313 n0 O324 f322 S_0 hr_1 S_2 S_3 S_4 S_5 p1_0 p3_0 p5_0 p7_0 f323) (argsL := [(.ref ob14), (.int (3 : Int32)), (.int (4 : Int32))]) (rest := []) rfl (lenOf pd_15 rfl) rfl (by rw [hml]; rfl) (W := 0) (Nat.le_of_eq rfl) (hb hby at_156) (by decide) (by decide) (by decide) (by decide) rfl ?_
        have f326 : Arv Z h313 ob8 k8 .char (4 : Int32) [(.int r_1), (.int r_3), (.int r_5), (.int r_7)] (.int (0 : Int32)) := (f314.keep K313 nin0)
        rintro T325 h325 _ L325 X325 e325 ⟨r_325, rfl, M325, K325, p325_0⟩
        have N325 := Fr.app N313 M325
        refine go_iload (q := 161) X325 hx (hb hby at_159) (v := (0 : Int32)) rfl rfl ?_
        refine go_icmpN (q := 164) X325 hx (hb hby at_161) (XT.ii_ne_f (by rcases p325_0 with ⟨q, q2⟩ | ⟨q, q2⟩ <;> first | exact q | (exact absurd (q2) d316))) rfl ?_
        refine go_iconst (q := 165) X325 hx (hb hby at_164) (v := (1 : Int32)) (by decide) rfl ?_
        refine go_goto (q := 169) X325 hx (hb hby at_165) (by decide) (by decide) ?_
        refine go_retI X325 hx hret hlk e325 (hb hby at_169) (by simp) (by decide) (by decide) (by decide) ?_
        exact ⟨(by first | rfl | simp [d316] | simp_all), N325, (((((((((((((((((Keep.refl h0 []).trans K1 all0).trans K3 all0).trans K5 all0).trans K7 all0).ext E8).wr W10 (Or.inr sn8)).wr W11 (Or.inr sn8)).wr W12 (Or.inr sn8)).wr W13 (Or.inr sn8)).ext E14).trans K20 (allS (P := fun x => x ∈ [] ∨ h0.size ≤ x) (Or.inr sn14) all0)).trans K307 all0).trans K309 all0).trans K311 all0).trans K313 all0).trans K325 all0)⟩
  · rw [c71]
    refine go_istore (q := 73) X20 hx (hb hby at_71) (l' := #[.val (.int p0), .val (.int p1), .val (.int p2), .val (.int p3), .val (.int p4), .val (.int r_1), .val (.int r_3), .val (.int r_5), .val (.int r_7), .val (.ref ob8), .val (.ref ob14), .val (.int (4 : Int32)), .unset, .unset]) rfl rfl ?_
    refine go_iload (q := 75) X20 hx (hb hby at_73) (v := p4) rfl rfl ?_
    refine go_iconst (q := 76) X20 hx (hb hby at_75) (v := (3 : Int32)) (by decide) rfl ?_
    refine go_iushr (q := 77) X20 hx (hb hby at_76) (v := (XT.ushr p4 (3 : Int32))) rfl rfl ?_
    refine go_bipush (q := 79) X20 hx (hb hby at_77) (v := (7 : Int32)) (by decide) rfl ?_
    refine go_iand (q := 80) X20 hx (hb hby at_79) (v := ((XT.ushr p4 (3 : Int32)) &&& (7 : Int32))) rfl rfl ?_
    refine go_iconst (q := 81) X20 hx (hb hby at_80) (v := (5 : Int32)) (by decide) rfl ?_
    refine go_irem (q := 82) X20 hx (hb hby at_81) (by decide) rfl ?_
    rcases own_t5 p4 with c82 | c82 | c82 | c82 | c82
    · rw [c82]
      refine go_istore (q := 84) X20 hx (hb hby at_82) (l' := #[.val (.int p0), .val (.int p1), .val (.int p2), .val (.int p3), .val (.int p4), .val (.int r_1), .val (.int r_3), .val (.int r_5), .val (.int r_7), .val (.ref ob8), .val (.ref ob14), .val (.int (4 : Int32)), .val (.int (0 : Int32)), .unset]) rfl rfl ?_
      refine go_iload (q := 86) X20 hx (hb hby at_84) (v := (4 : Int32)) rfl rfl ?_
      refine go_iload (q := 88) X20 hx (hb hby at_86) (v := (0 : Int32)) rfl rfl ?_
      refine go_icmpY (q := 147) X20 hx (hb hby at_88) (XT.ii_ge_t (by decide)) (by decide) (by decide) ?_
      refine go_iconst (q := 148) X20 hx (hb hby at_147) (v := (0 : Int32)) (by decide) rfl ?_
      refine go_istore (q := 150) X20 hx (hb hby at_148) (l' := #[.val (.int p0), .val (.int p1), .val (.int p2), .val (.int p3), .val (.int p4), .val (.int r_1), .val (.int r_3), .val (.int r_5), .val (.int r_7), .val (.ref ob8), .val (.ref ob14), .val (.int (4 : Int32)), .val (.int (0 : Int32)), .val (.int (0 : Int32))]) rfl rfl ?_
      refine go_aload (q := 152) X20 hx (hb hby at_150) (v := (.ref ob14)) rfl rfl rfl ?_
      refine go_iload (q := 154) X20 hx (hb hby at_152) (v := (4 : Int32)) rfl rfl ?_
      refine go_iload (q := 156) X20 hx (hb hby at_154) (v := (0 : Int32)) rfl rfl ?_
      have O327 : Old Z n0 h20 := (O19.keep K20 (allS fr14 all0))
      refine go_static (q := 159) X20 hx hZ hown (y := (⟨"com/example/harborspread/harborspread/Decimals", "isDigits", "(Ljava/lang/String;II)Z"⟩ : MethodName)) (w35 hw) (w36 hw) (w37 hw) (w38 hw) (by decide) e20 (b8 l Z a0 hw ob14 (4 : Int32) (0 : Int32) h20 n0 O327 (by decide)) (argsL := [(.ref ob14), (.int (4 : Int32)), (.int (0 : Int32))]) (rest := []) rfl (lenOf pd_15 rfl) rfl (by rw [hml]; rfl) (W := 0) (Nat.le_of_eq rfl) (hb hby at_156) (by decide) (by decide) (by decide) (by decide) rfl ?_
      rintro T328 h328 _ L328 X328 e328 ⟨rfl, M328, K328⟩
      have N328 := Fr.app N20 M328
      refine go_iload (q := 161) X328 hx (hb hby at_159) (v := (0 : Int32)) rfl rfl ?_
      refine go_icmpN (q := 164) X328 hx (hb hby at_161) (XT.ii_ne_f (by decide)) rfl ?_
      refine go_iconst (q := 165) X328 hx (hb hby at_164) (v := (1 : Int32)) (by decide) rfl ?_
      refine go_goto (q := 169) X328 hx (hb hby at_165) (by decide) (by decide) ?_
      refine go_retI X328 hx hret hlk e328 (hb hby at_169) (by simp) (by decide) (by decide) (by decide) ?_
      exact ⟨rfl, N328, (((((((((((((Keep.refl h0 []).trans K1 all0).trans K3 all0).trans K5 all0).trans K7 all0).ext E8).wr W10 (Or.inr sn8)).wr W11 (Or.inr sn8)).wr W12 (Or.inr sn8)).wr W13 (Or.inr sn8)).ext E14).trans K20 (allS (P := fun x => x ∈ [] ∨ h0.size ≤ x) (Or.inr sn14) all0)).trans K328 all0)⟩
    · rw [c82]
      refine go_istore (q := 84) X20 hx (hb hby at_82) (l' := #[.val (.int p0), .val (.int p1), .val (.int p2), .val (.int p3), .val (.int p4), .val (.int r_1), .val (.int r_3), .val (.int r_5), .val (.int r_7), .val (.ref ob8), .val (.ref ob14), .val (.int (4 : Int32)), .val (.int (1 : Int32)), .unset]) rfl rfl ?_
      refine go_iload (q := 86) X20 hx (hb hby at_84) (v := (4 : Int32)) rfl rfl ?_
      refine go_iload (q := 88) X20 hx (hb hby at_86) (v := (1 : Int32)) rfl rfl ?_
      refine go_icmpY (q := 147) X20 hx (hb hby at_88) (XT.ii_ge_t (by decide)) (by decide) (by decide) ?_
      refine go_iconst (q := 148) X20 hx (hb hby at_147) (v := (0 : Int32)) (by decide) rfl ?_
      refine go_istore (q := 150) X20 hx (hb hby at_148) (l' := #[.val (.int p0), .val (.int p1), .val (.int p2), .val (.int p3), .val (.int p4), .val (.int r_1), .val (.int r_3), .val (.int r_5), .val (.int r_7), .val (.ref ob8), .val (.ref ob14), .val (.int (4 : Int32)), .val (.int (1 : Int32)), .val (.int (0 : Int32))]) rfl rfl ?_
      refine go_aload (q := 152) X20 hx (hb hby at_150) (v := (.ref ob14)) rfl rfl rfl ?_
      refine go_iload (q := 154) X20 hx (hb hby at_152) (v := (4 : Int32)) rfl rfl ?_
      refine go_iload (q := 156) X20 hx (hb hby at_154) (v := (1 : Int32)) rfl rfl ?_
      have O329 : Old Z n0 h20 := (O19.keep K20 (allS fr14 all0))
      refine go_static (q := 159) X20 hx hZ hown (y := (⟨"com/example/harborspread/harborspread/Decimals", "isDigits", "(Ljava/lang/String;II)Z"⟩ : MethodName)) (w35 hw) (w36 hw) (w37 hw) (w38 hw) (by decide) e20 (b8 l Z a0 hw ob14 (4 : Int32) (1 : Int32) h20 n0 O329 (by decide)) (argsL := [(.ref ob14), (.int (4 : Int32)), (.int (1 : Int32))]) (rest := []) rfl (lenOf pd_15 rfl) rfl (by rw [hml]; rfl) (W := 0) (Nat.le_of_eq rfl) (hb hby at_156) (by decide) (by decide) (by decide) (by decide) rfl ?_
      rintro T330 h330 _ L330 X330 e330 ⟨rfl, M330, K330⟩
      have N330 := Fr.app N20 M330
      refine go_iload (q := 161) X330 hx (hb hby at_159) (v := (0 : Int32)) rfl rfl ?_
      refine go_icmpN (q := 164) X330 hx (hb hby at_161) (XT.ii_ne_f (by decide)) rfl ?_
      refine go_iconst (q := 165) X330 hx (hb hby at_164) (v := (1 : Int32)) (by decide) rfl ?_
      refine go_goto (q := 169) X330 hx (hb hby at_165) (by decide) (by decide) ?_
      refine go_retI X330 hx hret hlk e330 (hb hby at_169) (by simp) (by decide) (by decide) (by decide) ?_
      exact ⟨rfl, N330, (((((((((((((Keep.refl h0 []).trans K1 all0).trans K3 all0).trans K5 all0).trans K7 all0).ext E8).wr W10 (Or.inr sn8)).wr W11 (Or.inr sn8)).wr W12 (Or.inr sn8)).wr W13 (Or.inr sn8)).ext E14).trans K20 (allS (P := fun x => x ∈ [] ∨ h0.size ≤ x) (Or.inr sn14) all0)).trans K330 all0)⟩
    · rw [c82]
      refine go_istore (q := 84) X20 hx (hb hby at_82) (l' := #[.val (.int p0), .val (.int p1), .val (.int p2), .val (.int p3), .val (.int p4), .val (.int r_1), .val (.int r_3), .val (.int r_5), .val (.int r_7), .val (.ref ob8), .val (.ref ob14), .val (.int (4 : Int32)), .val (.int (2 : Int32)), .unset]) rfl rfl ?_
      refine go_iload (q := 86) X20 hx (hb hby at_84) (v := (4 : Int32)) rfl rfl ?_
      refine go_iload (q := 88) X20 hx (hb hby at_86) (v := (2 : Int32)) rfl rfl ?_
      refine go_icmpY (q := 147) X20 hx (hb hby at_88) (XT.ii_ge_t (by decide)) (by decide) (by decide) ?_
      refine go_iconst (q := 148) X20 hx (hb hby at_147) (v := (0 : Int32)) (by decide) rfl ?_
      refine go_istore (q := 150) X20 hx (hb hby at_148) (l' := #[.val (.int p0), .val (.int p1), .val (.int p2), .val (.int p3), .val (.int p4), .val (.int r_1), .val (.int r_3), .val (.int r_5), .val (.int r_7), .val (.ref ob8), .val (.ref ob14), .val (.int (4 : Int32)), .val (.int (2 : Int32)), .val (.int (0 : Int32))]) rfl rfl ?_
      refine go_aload (q := 152) X20 hx (hb hby at_150) (v := (.ref ob14)) rfl rfl rfl ?_
      refine go_iload (q := 154) X20 hx (hb hby at_152) (v := (4 : Int32)) rfl rfl ?_
      refine go_iload (q := 156) X20 hx (hb hby at_154) (v := (2 : Int32)) rfl rfl ?_
      have O331 : Old Z n0 h20 := (O19.keep K20 (allS fr14 all0))
      refine go_static (q := 159) X20 hx hZ hown (y := (⟨"com/example/harborspread/harborspread/Decimals", "isDigits", "(Ljava/lang/String;II)Z"⟩ : MethodName)) (w35 hw) (w36 hw) (w37 hw) (w38 hw) (by decide) e20 (b8 l Z a0 hw ob14 (4 : Int32) (2 : Int32) h20 n0 O331 (by decide)) (argsL := [(.ref ob14), (.int (4 : Int32)), (.int (2 : Int32))]) (rest := []) rfl (lenOf pd_15 rfl) rfl (by rw [hml]; rfl) (W := 0) (Nat.le_of_eq rfl) (hb hby at_156) (by decide) (by decide) (by decide) (by decide) rfl ?_
      rintro T332 h332 _ L332 X332 e332 ⟨rfl, M332, K332⟩
      have N332 := Fr.app N20 M332
      refine go_iload (q := 161) X332 hx (hb hby at_159) (v := (0 : Int32)) rfl rfl ?_
      refine go_icmpN (q := 164) X332 hx (hb hby at_161) (XT.ii_ne_f (by decide)) rfl ?_
      refine go_iconst (q := 165) X332 hx (hb hby at_164) (v := (1 : Int32)) (by decide) rfl ?_
      refine go_goto (q := 169) X332 hx (hb hby at_165) (by decide) (by decide) ?_
      refine go_retI X332 hx hret hlk e332 (hb hby at_169) (by simp) (by decide) (by decide) (by decide) ?_
      exact ⟨rfl, N332, (((((((((((((Keep.refl h0 []).trans K1 all0).trans K3 all0).trans K5 all0).trans K7 all0).ext E8).wr W10 (Or.inr sn8)).wr W11 (Or.inr sn8)).wr W12 (Or.inr sn8)).wr W13 (Or.inr sn8)).ext E14).trans K20 (allS (P := fun x => x ∈ [] ∨ h0.size ≤ x) (Or.inr sn14) all0)).trans K332 all0)⟩
    · rw [c82]
      refine go_istore (q := 84) X20 hx (hb hby at_82) (l' := #[.val (.int p0), .val (.int p1), .val (.int p2), .val (.int p3), .val (.int p4), .val (.int r_1), .val (.int r_3), .val (.int r_5), .val (.int r_7), .val (.ref ob8), .val (.ref ob14), .val (.int (4 : Int32)), .val (.int (3 : Int32)), .unset]) rfl rfl ?_
      refine go_iload (q := 86) X20 hx (hb hby at_84) (v := (4 : Int32)) rfl rfl ?_
      refine go_iload (q := 88) X20 hx (hb hby at_86) (v := (3 : Int32)) rfl rfl ?_
      refine go_icmpY (q := 147) X20 hx (hb hby at_88) (XT.ii_ge_t (by decide)) (by decide) (by decide) ?_
      refine go_iconst (q := 148) X20 hx (hb hby at_147) (v := (0 : Int32)) (by decide) rfl ?_
      refine go_istore (q := 150) X20 hx (hb hby at_148) (l' := #[.val (.int p0), .val (.int p1), .val (.int p2), .val (.int p3), .val (.int p4), .val (.int r_1), .val (.int r_3), .val (.int r_5), .val (.int r_7), .val (.ref ob8), .val (.ref ob14), .val (.int (4 : Int32)), .val (.int (3 : Int32)), .val (.int (0 : Int32))]) rfl rfl ?_
      refine go_aload (q := 152) X20 hx (hb hby at_150) (v := (.ref ob14)) rfl rfl rfl ?_
      refine go_iload (q := 154) X20 hx (hb hby at_152) (v := (4 : Int32)) rfl rfl ?_
      refine go_iload (q := 156) X20 hx (hb hby at_154) (v := (3 : Int32)) rfl rfl ?_
      have O333 : Old Z n0 h20 := (O19.keep K20 (allS fr14 all0))
      refine go_static (q := 159) X20 hx hZ hown (y := (⟨"com/example/harborspread/harborspread/Decimals", "isDigits", "(Ljava/lang/String;II)Z"⟩ : MethodName)) (w35 hw) (w36 hw) (w37 hw) (w38 hw) (by decide) e20 (b8 l Z a0 hw ob14 (4 : Int32) (3 : Int32) h20 n0 O333 (by decide)) (argsL := [(.ref ob14), (.int (4 : Int32)), (.int (3 : Int32))]) (rest := []) rfl (lenOf pd_15 rfl) rfl (by rw [hml]; rfl) (W := 0) (Nat.le_of_eq rfl) (hb hby at_156) (by decide) (by decide) (by decide) (by decide) rfl ?_
      rintro T334 h334 _ L334 X334 e334 ⟨rfl, M334, K334⟩
      have N334 := Fr.app N20 M334
      refine go_iload (q := 161) X334 hx (hb hby at_159) (v := (0 : Int32)) rfl rfl ?_
      refine go_icmpN (q := 164) X334 hx (hb hby at_161) (XT.ii_ne_f (by decide)) rfl ?_
      refine go_iconst (q := 165) X334 hx (hb hby at_164) (v := (1 : Int32)) (by decide) rfl ?_
      refine go_goto (q := 169) X334 hx (hb hby at_165) (by decide) (by decide) ?_
      refine go_retI X334 hx hret hlk e334 (hb hby at_169) (by simp) (by decide) (by decide) (by decide) ?_
      exact ⟨rfl, N334, (((((((((((((Keep.refl h0 []).trans K1 all0).trans K3 all0).trans K5 all0).trans K7 all0).ext E8).wr W10 (Or.inr sn8)).wr W11 (Or.inr sn8)).wr W12 (Or.inr sn8)).wr W13 (Or.inr sn8)).ext E14).trans K20 (allS (P := fun x => x ∈ [] ∨ h0.size ≤ x) (Or.inr sn14) all0)).trans K334 all0)⟩
    · rw [c82]
      refine go_istore (q := 84) X20 hx (hb hby at_82) (l' := #[.val (.int p0), .val (.int p1), .val (.int p2), .val (.int p3), .val (.int p4), .val (.int r_1), .val (.int r_3), .val (.int r_5), .val (.int r_7), .val (.ref ob8), .val (.ref ob14), .val (.int (4 : Int32)), .val (.int (4 : Int32)), .unset]) rfl rfl ?_
      refine go_iload (q := 86) X20 hx (hb hby at_84) (v := (4 : Int32)) rfl rfl ?_
      refine go_iload (q := 88) X20 hx (hb hby at_86) (v := (4 : Int32)) rfl rfl ?_
      refine go_icmpY (q := 147) X20 hx (hb hby at_88) (XT.ii_ge_t (by decide)) (by decide) (by decide) ?_
      refine go_iconst (q := 148) X20 hx (hb hby at_147) (v := (0 : Int32)) (by decide) rfl ?_
      refine go_istore (q := 150) X20 hx (hb hby at_148) (l' := #[.val (.int p0), .val (.int p1), .val (.int p2), .val (.int p3), .val (.int p4), .val (.int r_1), .val (.int r_3), .val (.int r_5), .val (.int r_7), .val (.ref ob8), .val (.ref ob14), .val (.int (4 : Int32)), .val (.int (4 : Int32)), .val (.int (0 : Int32))]) rfl rfl ?_
      refine go_aload (q := 152) X20 hx (hb hby at_150) (v := (.ref ob14)) rfl rfl rfl ?_
      refine go_iload (q := 154) X20 hx (hb hby at_152) (v := (4 : Int32)) rfl rfl ?_
      refine go_iload (q := 156) X20 hx (hb hby at_154) (v := (4 : Int32)) rfl rfl ?_
      have O335 : Old Z n0 h20 := (O19.keep K20 (allS fr14 all0))
      refine go_static (q := 159) X20 hx hZ hown (y := (⟨"com/example/harborspread/harborspread/Decimals", "isDigits", "(Ljava/lang/String;II)Z"⟩ : MethodName)) (w35 hw) (w36 hw) (w37 hw) (w38 hw) (by decide) e20 (b8 l Z a0 hw ob14 (4 : Int32) (4 : Int32) h20 n0 O335 (by decide)) (argsL := [(.ref ob14), (.int (4 : Int32)), (.int (4 : Int32))]) (rest := []) rfl (lenOf pd_15 rfl) rfl (by rw [hml]; rfl) (W := 0) (Nat.le_of_eq rfl) (hb hby at_156) (by decide) (by decide) (by decide) (by decide) rfl ?_
      rintro T336 h336 _ L336 X336 e336 ⟨rfl, M336, K336⟩
      have N336 := Fr.app N20 M336
      refine go_iload (q := 161) X336 hx (hb hby at_159) (v := (0 : Int32)) rfl rfl ?_
      refine go_icmpN (q := 164) X336 hx (hb hby at_161) (XT.ii_ne_f (by decide)) rfl ?_
      refine go_iconst (q := 165) X336 hx (hb hby at_164) (v := (1 : Int32)) (by decide) rfl ?_
      refine go_goto (q := 169) X336 hx (hb hby at_165) (by decide) (by decide) ?_
      refine go_retI X336 hx hret hlk e336 (hb hby at_169) (by simp) (by decide) (by decide) (by decide) ?_
      exact ⟨rfl, N336, (((((((((((((Keep.refl h0 []).trans K1 all0).trans K3 all0).trans K5 all0).trans K7 all0).ext E8).wr W10 (Or.inr sn8)).wr W11 (Or.inr sn8)).wr W12 (Or.inr sn8)).wr W13 (Or.inr sn8)).ext E14).trans K20 (allS (P := fun x => x ∈ [] ∨ h0.size ≤ x) (Or.inr sn14) all0)).trans K336 all0)⟩
set_option maxRecDepth 65536 in
set_option maxHeartbeats 40000000 in
theorem comes_1 {Post : Tables → Env → Array Value → State → Outcome → State → Prop} (hpost : ∀ tb e args s v u, (limb_1_1.after args s (.returned v) u = true ∧ limb_1_2.after args s (.returned v) u = true ∧ True) → FrameEnd s (.returned v) u (Jvm.fieldLocs frame_1_writes args s ++ Jvm.arrayLocs frame_1_arrays args s ++ Jvm.staticLocs frame_1_statics s) 16 128 → Post tb e args s (.returned v) u) :
    ArmFor flags0 classFile x code maxLocals ret World_1 tables_1 room_1 Calls_1 rest_1 Pre_1 Post := by
  intro l hfl _ _ p e ha hc hk s m args below hf hA hF happ hP
  obtain ⟨hcalls, hrest, hpre⟩ := hP
  obtain ⟨-, -, -, hnamed, -, -, -, hat⟩ := (Spec.applies_iff hf).mp happ
  obtain ⟨hg, hn⟩ := and_e (Cond.before_iff.mp (show (Jvm.Cond.and given_1 narrow_1).before args s = true from hpre))
  obtain ⟨hct, hg⟩ := and_e hg
  obtain ⟨w0, w1, w2, w3, w4, rfl⟩ : ∃ w0 w1 w2 w3 w4 : Value, args = #[w0, w1, w2, w3, w4] := by
    have hs : args.size = 5 := by simpa [Cond.value, given_1] using hct
    obtain ⟨L⟩ := args
    match L, hs with
    | [w0, w1, w2, w3, w4], _ => exact ⟨w0, w1, w2, w3, w4, rfl⟩
  have hw := fun d (hd : d ∈ tables_1) => atoms_spec (ws := Jvm.Cond.code x code maxLocals ret :: tables_1) hat d (List.mem_cons_of_mem _ hd)
  have hfit : Fit s := fun {y c} hc i hi => by
    obtain ⟨ha, rfl⟩ := Array.getElem?_eq_some_iff.mp hc
    have q := List.all_eq_true.mp ((Array.all_eq_true_iff_forall_mem.mp hF) _ (Array.getElem_mem ha)) i (List.mem_range.mpr hi)
    simpa [Array.getElem?_eq_getElem hi] using q
  obtain ⟨hg0, hg⟩ := and_e hg
  obtain ⟨i0, q0⟩ := is_v hg0
  obtain rfl : w0 = (.int i0) := Option.some.inj q0
  obtain ⟨hg1, hg⟩ := and_e hg
  obtain ⟨i1, q1⟩ := is_v hg1
  obtain rfl : w1 = (.int i1) := Option.some.inj q1
  obtain ⟨hg2, hg⟩ := and_e hg
  obtain ⟨i2, q2⟩ := is_v hg2
  obtain rfl : w2 = (.int i2) := Option.some.inj q2
  obtain ⟨hg3, hg⟩ := and_e hg
  obtain ⟨i3, q3⟩ := is_v hg3
  obtain rfl : w3 = (.int i3) := Option.some.inj q3
  obtain ⟨i4, q4⟩ := is_v hg
  obtain rfl : w4 = (.int i4) := Option.some.inj q4
  obtain ⟨hsets, hown0⟩ := atoms_of _ (rest_1_c_eq ▸ (show rest_1_c.before _ s = true from hrest))
  obtain ⟨x2, v2⟩ := is_v (Cond.before_iff.mp (hsets _ (List.mem_of_getElem? (i := 1) rfl)))
  have S3 : Sta s s.heap "java/lang/String" "COMPACT_STRINGS" "Z" (.int x2) := Sta.start v2 (Or.inl (hsets _ (List.mem_of_getElem? (i := 0) rfl)))
  have r4 : ¬ (x2 = (0 : Int32)) := gotF (Cond.eq_ints v2 (Term.int_eval (0))) (not_v (Cond.before_iff.mp (hsets _ (List.mem_of_getElem? (i := 2) rfl))))
  obtain ⟨x10, v10, r10⟩ := isR_v (Cond.before_iff.mp (hsets _ (List.mem_of_getElem? (i := 8) rfl)))
  have S11 : Sta s s.heap "jdk/internal/util/Preconditions" "SIOOBE_FORMATTER" "Ljava/util/function/BiFunction;" x10 := Sta.start v10 (Or.inl (hsets _ (List.mem_of_getElem? (i := 7) rfl)))
  have v15 := own_eqI (Cond.before_iff.mp (hsets _ (List.mem_of_getElem? (i := 12) rfl)))
  have S16 : Sta s s.heap "java/lang/StringUTF16" "$assertionsDisabled" "Z" (.int (1 : Int32)) := Sta.start v15 (Or.inl (hsets _ (List.mem_of_getElem? (i := 11) rfl)))
  have v19 := own_eqI (Cond.before_iff.mp (hsets _ (List.mem_of_getElem? (i := 15) rfl)))
  have S20 : Sta s s.heap "java/lang/StringUTF16" "HI_BYTE_SHIFT" "I" (.int (0 : Int32)) := Sta.start v19 (Or.inl (hsets _ (List.mem_of_getElem? (i := 14) rfl)))
  have v23 := own_eqI (Cond.before_iff.mp (hsets _ (List.mem_of_getElem? (i := 18) rfl)))
  have S24 : Sta s s.heap "java/lang/StringUTF16" "LO_BYTE_SHIFT" "I" (.int (8 : Int32)) := Sta.start v23 (Or.inl (hsets _ (List.mem_of_getElem? (i := 17) rfl)))
  obtain ⟨n, o, h1, h2, h3, _, L, rfl, ⟨rfl, N, -⟩, hq⟩ := b0 l s _ hw i0 i1 i2 i3 i4 x2 x10 r10 s.heap s.heap.size (Old.start s) S3 r4 S11 S16 S20 S24 tables_1 p e ha hc hk s m _ below hf ((Spec.applies_iff_loose hf).mp happ).1 ⟨rfl, State.Warmed39.refl s, rfl⟩ trivial
  refine ⟨n, _, h1, h2, h3, hpost _ _ _ _ _ _ ⟨Cond.after_iff.mpr rfl, Cond.after_iff.mpr (eq_i res_at (Term.int_eval (1)) rfl), trivial⟩ ⟨hq.1, hq.2.1, (hq.2.2.sift fun y hy => Or.inr (N y hy)).mono (by decide) (by decide)⟩⟩
theorem main_1_1 : Claimed_1_1 := comes_1 fun _ _ _ _ _ _ h hF => ⟨h.1, hF⟩
theorem main_1_2 : Claimed_1_2 := comes_1 fun _ _ _ _ _ _ h hF => ⟨h.2.1, hF⟩

end Jvm.Pilot.@@N@@
namespace Jvm.Pilot.@@N@@
open Jvm Jvm.ClassFile Sem Op Lib Jvm.Free Jvm.Stand Jvm.Pilot.@@N@@.Jvm.D
/-! MADE BY PROGRAM (witnessworld.py) out of the Statement's table words and the real class files: 20 classes; the members and pool entries that the words name. The judged class is class 1, her method 3. -/
namespace start1
open Jvm.ClassFile
def u (s : String) : CpInfo := .utf8 (stringToUtf16 s)
/-- a pool by its gaps: so many unusable entries, then the entry; so many at the end -/
def gap : Nat → List CpInfo → List CpInfo
  | 0, r => r
  | n + 1, r => .unusable :: gap n r
def poolList (es : List (Nat × CpInfo)) (last : Nat) : List CpInfo := es.foldr (fun e r => gap e.1 (e.2 :: r)) (gap last [])
def pool (es : List (Nat × CpInfo)) (last : Nat) : Array CpInfo := ⟨poolList es last⟩
def fileOf (pool : Array CpInfo) (this : Nat) (attrs : Array Attribute := #[]) (ms : Array MethodInfo := #[]) (fl : Nat := 33) (sup : Nat := 0) (ifs : Array Nat := #[]) (fds : Array FieldInfo := #[]) : ClassFile where
  minorVersion := 0
  majorVersion := 65
  constantPool := pool
  accessFlags := fl
  thisClass := this
  superClass := sup
  interfaces := ifs
  fields := fds
  methods := ms
  attributes := attrs
def plain (name : String) (sup : Option ClassId) : Class where
  name := name
  kind := .ordinary
  loader := none
  accessFlags := 33
  super := sup
  interfaces := #[]
  cf := none
  fields := #[]
  methods := #[]
  instanceTypes := #[]
  staticTypes := #[]
  resolved := #[]
  callSites := []
  init := .initialized
  statics := none
  mirror := none

def pool0 : Array CpInfo := pool [(5, u "<init>"), (0, u "()V"), (1, .class_ 10), (1, u "java/lang/Object")] 113

def k0c0 : Code := { maxStack := 0, maxLocals := 1, code := object_method_1_code, exceptionTable := #[], attributes := #[] }
def k0m0 : Method := { name := "<init>", desc := "()V", sig := { parameters := [], returnType := none }, accessFlags := 1, code := some k0c0 }
/-- java/lang/Object -/
def k0 : Class := { plain "java/lang/Object" none with
  accessFlags := 33
  interfaces := #[]
  cf := some (fileOf pool0 8 #[] #[{ accessFlags := 1, nameIndex := 5, descriptorIndex := 6, attributes := #[] }] 33 0 #[] #[])
  fields := #[]
  methods := #[k0m0]
  instanceTypes := #[]
  staticTypes := #[]
  resolved := Array.replicate 124 none
  statics := none }

def pool1 : Array CpInfo := pool [(2, .class_ 4), (1, u "java/lang/Object"), (0, u "<init>"), (0, u "()V"), (0, .integer 65535), (0, .methodref 9 10), (0, .class_ 11), (0, .nameAndType 12 13), (0, u "com/example/harborspread/harborspread/DecimalsIsDigitsPinLaw"), (0, u "ch"), (0, u "(I)C"), (0, .class_ 15), (0, u "java/lang/String"), (0, .methodref 14 17), (0, .nameAndType 5 18), (0, u "([C)V"), (0, .methodref 9 20), (0, .nameAndType 21 22), (0, u "fine"), (0, u "(CIII)Z"), (0, .methodref 24 25), (0, .class_ 26), (0, .nameAndType 27 28), (0, u "com/example/harborspread/harborspread/Decimals"), (0, u "isDigits"), (0, u "(Ljava/lang/String;II)Z"), (3, u "law"), (0, u "(IIIII)Z")] 4

def k1m0 : Method := { name := "<init>", desc := "()V", sig := { parameters := [], returnType := none }, accessFlags := 2, code := none }
def k1c1 : Code := { maxStack := 3, maxLocals := 1, code := method_2_code, exceptionTable := #[], attributes := #[] }
def k1m1 : Method := { name := "ch", desc := "(I)C", sig := { parameters := [.int], returnType := some .char }, accessFlags := 10, code := some k1c1 }
def k1c2 : Code := { maxStack := 2, maxLocals := 4, code := method_3_code, exceptionTable := #[], attributes := #[] }
def k1m2 : Method := { name := "fine", desc := "(CIII)Z", sig := { parameters := [.char, .int, .int, .int], returnType := some .boolean }, accessFlags := 10, code := some k1c2 }
def k1c3 : Code := { maxStack := 4, maxLocals := 14, code := code, exceptionTable := #[], attributes := #[] }
def k1m3 : Method := { name := "law", desc := "(IIIII)Z", sig := { parameters := [.int, .int, .int, .int, .int], returnType := some .boolean }, accessFlags := 9, code := some k1c3 }
/-- com/example/harborspread/harborspread/DecimalsIsDigitsPinLaw -/
def k1 : Class := { plain "com/example/harborspread/harborspread/DecimalsIsDigitsPinLaw" (some 0) with
  accessFlags := 49
  interfaces := #[]
  cf := some (fileOf pool1 9 #[] #[{ accessFlags := 2, nameIndex := 5, descriptorIndex := 6, attributes := #[] }, { accessFlags := 10, nameIndex := 12, descriptorIndex := 13, attributes := #[] }, { accessFlags := 10, nameIndex := 21, descriptorIndex := 22, attributes := #[] }, { accessFlags := 9, nameIndex := 32, descriptorIndex := 33, attributes := #[] }] 49 2 #[] #[])
  fields := #[]
  methods := #[k1m0, k1m1, k1m2, k1m3]
  instanceTypes := #[]
  staticTypes := #[]
  resolved := Array.replicate 38 none
  statics := none }

def pool2 : Array CpInfo := pool [(1, .class_ 2), (0, u "java/io/Serializable"), (0, .class_ 4), (0, u "java/lang/Object")] 2

/-- java/io/Serializable -/
def k2 : Class := { plain "java/io/Serializable" (some 0) with
  accessFlags := 1537
  interfaces := #[]
  cf := some (fileOf pool2 1 #[] #[] 1537 3 #[] #[])
  fields := #[]
  methods := #[]
  instanceTypes := #[]
  staticTypes := #[]
  resolved := Array.replicate 7 none
  statics := none }

def pool3 : Array CpInfo := pool [(1, .class_ 2), (0, u "java/lang/Comparable"), (0, .class_ 4), (0, u "java/lang/Object")] 7

/-- java/lang/Comparable -/
def k3 : Class := { plain "java/lang/Comparable" (some 0) with
  accessFlags := 1537
  interfaces := #[]
  cf := some (fileOf pool3 1 #[] #[] 1537 3 #[] #[])
  fields := #[]
  methods := #[]
  instanceTypes := #[]
  staticTypes := #[]
  resolved := Array.replicate 12 none
  statics := none }

def pool4 : Array CpInfo := pool [(2, .class_ 4), (1, u "java/lang/CharSequence"), (42, .class_ 48), (0, u "java/lang/CharSequence$1CodePointIterator"), (10, .class_ 60), (0, u "java/lang/CharSequence$1CharIterator"), (5, .class_ 67), (0, u "java/lang/Object")] 63

/-- java/lang/CharSequence -/
def k4 : Class := { plain "java/lang/CharSequence" (some 0) with
  accessFlags := 1537
  interfaces := #[]
  cf := some (fileOf pool4 2 #[.nestMembers #[47, 59]] #[] 1537 66 #[] #[])
  fields := #[]
  methods := #[]
  instanceTypes := #[]
  staticTypes := #[]
  resolved := Array.replicate 131 none
  statics := none }

def pool5 : Array CpInfo := pool [(1, .class_ 2), (0, u "java/lang/constant/Constable"), (0, .class_ 4), (0, u "java/lang/Object")] 6

/-- java/lang/constant/Constable -/
def k5 : Class := { plain "java/lang/constant/Constable" (some 0) with
  accessFlags := 1537
  interfaces := #[]
  cf := some (fileOf pool5 1 #[] #[] 1537 3 #[] #[])
  fields := #[]
  methods := #[]
  instanceTypes := #[]
  staticTypes := #[]
  resolved := Array.replicate 11 none
  statics := none }

def pool6 : Array CpInfo := pool [(1, .class_ 2), (0, u "java/lang/constant/ConstantDesc"), (0, .class_ 4), (0, u "java/lang/Object")] 32

/-- java/lang/constant/ConstantDesc -/
def k6 : Class := { plain "java/lang/constant/ConstantDesc" (some 0) with
  accessFlags := 1537
  interfaces := #[]
  cf := some (fileOf pool6 1 #[] #[] 1537 3 #[] #[])
  fields := #[]
  methods := #[]
  instanceTypes := #[]
  staticTypes := #[]
  resolved := Array.replicate 37 none
  statics := none }

def pool7 : Array CpInfo := pool [(1, .methodref 2 3), (0, .class_ 4), (0, .nameAndType 5 6), (0, u "java/lang/Object"), (0, u "<init>"), (0, u "()V"), (2, .fieldref 10 11), (0, .class_ 12), (0, .nameAndType 13 14), (0, u "java/lang/String"), (0, u "value"), (0, u "[B"), (0, .fieldref 10 16), (0, .nameAndType 17 18), (0, u "coder"), (0, u "B"), (2, u "hash"), (0, u "I"), (2, u "hashIsZero"), (0, u "Z"), (0, .methodref 10 28), (0, .nameAndType 5 29), (0, u "([CIILjava/lang/Void;)V"), (8, .fieldref 10 39), (0, .nameAndType 40 26), (0, u "COMPACT_STRINGS"), (1, .class_ 44), (1, u "java/lang/StringUTF16"), (0, u "compress"), (1, .methodref 42 48), (0, .nameAndType 49 50), (0, u "coderFromArrayLen"), (0, u "([BI)B"), (56, .class_ 109), (1, u "java/lang/StringLatin1"), (32, u "()Z"), (34, .methodref 42 178), (0, .nameAndType 45 179), (0, u "([CII)[B"), (183, u "([BI)C"), (27, u "(II)V"), (35, u "(I)C"), (64, .methodref 10 493), (0, .nameAndType 494 142), (0, u "isLatin1"), (0, .methodref 107 496), (0, .nameAndType 497 363), (0, u "charAt"), (0, .methodref 42 496), (2, u "checkIndex"), (73, .class_ 576), (0, u "java/lang/CharSequence"), (22, u "CASE_INSENSITIVE_ORDER"), (0, u "Ljava/util/Comparator;"), (409, u "([C)V"), (42, .fieldref 1054 1055), (0, .class_ 1056), (0, .nameAndType 1057 1058), (0, u "jdk/internal/util/Preconditions"), (0, u "SIOOBE_FORMATTER"), (0, u "Ljava/util/function/BiFunction;"), (0, .methodref 1054 1060), (0, .nameAndType 501 1061), (0, u "(IILjava/util/function/BiFunction;)I"), (39, u "serialPersistentFields"), (0, u "[Ljava/io/ObjectStreamField;"), (0, .class_ 1104), (0, u "java/lang/String$CaseInsensitiveComparator"), (1, .class_ 1107), (0, u "java/io/Serializable"), (0, .class_ 1109), (0, u "java/lang/Comparable"), (0, .class_ 1111), (0, u "java/lang/constant/Constable"), (0, .class_ 1113), (0, u "java/lang/constant/ConstantDesc"), (2, u "serialVersionUID"), (0, u "J"), (3, u "REPL"), (0, u "C"), (2, u "LATIN1"), (1, u "UTF16")] 323

def k7m0 : Method := { name := "<init>", desc := "()V", sig := { parameters := [], returnType := none }, accessFlags := 1, code := none }
def k7c1 : Code := { maxStack := 5, maxLocals := 2, code := jdk_42_method_3_code, exceptionTable := #[], attributes := #[] }
def k7m1 : Method := { name := "<init>", desc := "([C)V", sig := { parameters := [(.array .char)], returnType := none }, accessFlags := 1, code := some k7c1 }
def k7c2 : Code := { maxStack := 2, maxLocals := 2, code := jdk_42_method_56_code, exceptionTable := #[], attributes := #[] }
def k7m2 : Method := { name := "charAt", desc := "(I)C", sig := { parameters := [.int], returnType := some .char }, accessFlags := 1, code := some k7c2 }
def k7c3 : Code := { maxStack := 4, maxLocals := 6, code := jdk_42_method_149_code, exceptionTable := #[], attributes := #[] }
def k7m3 : Method := { name := "<init>", desc := "([CIILjava/lang/Void;)V", sig := { parameters := [(.array .char), .int, .int, (.object "java/lang/Void")], returnType := none }, accessFlags := 2, code := some k7c3 }
def k7c4 : Code := { maxStack := 1, maxLocals := 1, code := jdk_42_method_154_code, exceptionTable := #[], attributes := #[] }
def k7m4 : Method := { name := "isLatin1", desc := "()Z", sig := { parameters := [], returnType := some .boolean }, accessFlags := 0, code := some k7c4 }
def k7c5 : Code := { maxStack := 3, maxLocals := 2, code := jdk_42_method_155_code, exceptionTable := #[], attributes := #[] }
def k7m5 : Method := { name := "checkIndex", desc := "(II)V", sig := { parameters := [.int, .int], returnType := none }, accessFlags := 8, code := some k7c5 }
/-- java/lang/String -/
def k7 : Class := { plain "java/lang/String" (some 0) with
  accessFlags := 49
  interfaces := #[2, 3, 4, 5, 6]
  cf := some (fileOf pool7 10 #[.nestMembers #[1103]] #[{ accessFlags := 1, nameIndex := 5, descriptorIndex := 6, attributes := #[] }, { accessFlags := 1, nameIndex := 5, descriptorIndex := 1010, attributes := #[] }, { accessFlags := 1, nameIndex := 497, descriptorIndex := 427, attributes := #[] }, { accessFlags := 2, nameIndex := 5, descriptorIndex := 29, attributes := #[] }, { accessFlags := 0, nameIndex := 494, descriptorIndex := 142, attributes := #[] }, { accessFlags := 8, nameIndex := 501, descriptorIndex := 391, attributes := #[] }] 49 2 #[1106, 1108, 575, 1110, 1112] #[{ accessFlags := 18, nameIndex := 13, descriptorIndex := 14, attributes := #[] }, { accessFlags := 18, nameIndex := 17, descriptorIndex := 18, attributes := #[] }, { accessFlags := 2, nameIndex := 21, descriptorIndex := 22, attributes := #[] }, { accessFlags := 2, nameIndex := 25, descriptorIndex := 26, attributes := #[] }, { accessFlags := 26, nameIndex := 1116, descriptorIndex := 1117, attributes := #[] }, { accessFlags := 24, nameIndex := 40, descriptorIndex := 26, attributes := #[] }, { accessFlags := 26, nameIndex := 1101, descriptorIndex := 1102, attributes := #[] }, { accessFlags := 26, nameIndex := 1121, descriptorIndex := 1122, attributes := #[] }, { accessFlags := 25, nameIndex := 599, descriptorIndex := 600, attributes := #[] }, { accessFlags := 24, nameIndex := 1125, descriptorIndex := 18, attributes := #[] }, { accessFlags := 24, nameIndex := 1127, descriptorIndex := 18, attributes := #[] }])
  fields := #[{ name := "value", type := (.array .byte), accessFlags := 18, slot := 0, constantValue := 0 }, { name := "coder", type := .byte, accessFlags := 18, slot := 1, constantValue := 0 }, { name := "hash", type := .int, accessFlags := 2, slot := 2, constantValue := 0 }, { name := "hashIsZero", type := .boolean, accessFlags := 2, slot := 3, constantValue := 0 }, { name := "serialVersionUID", type := .long, accessFlags := 26, slot := 0, constantValue := 0 }, { name := "COMPACT_STRINGS", type := .boolean, accessFlags := 24, slot := 1, constantValue := 0 }, { name := "serialPersistentFields", type := (.array (.object "java/io/ObjectStreamField")), accessFlags := 26, slot := 2, constantValue := 0 }, { name := "REPL", type := .char, accessFlags := 26, slot := 3, constantValue := 0 }, { name := "CASE_INSENSITIVE_ORDER", type := (.object "java/util/Comparator"), accessFlags := 25, slot := 4, constantValue := 0 }, { name := "LATIN1", type := .byte, accessFlags := 24, slot := 5, constantValue := 0 }, { name := "UTF16", type := .byte, accessFlags := 24, slot := 6, constantValue := 0 }]
  methods := #[k7m0, k7m1, k7m2, k7m3, k7m4, k7m5]
  instanceTypes := #[(.array .byte), .byte, .int, .boolean]
  staticTypes := #[.long, .boolean, (.array (.object "java/io/ObjectStreamField")), .char, (.object "java/util/Comparator"), .byte, .byte]
  resolved := Array.replicate 1451 none
  statics := some 0 }

def pool8 : Array CpInfo := pool [(3, .class_ 4), (0, u "java/lang/String"), (1, .class_ 8), (1, u "java/lang/Object"), (0, u "<init>"), (0, u "()V"), (0, .methodref 12 13), (0, .class_ 14), (0, .nameAndType 15 16), (0, u "java/lang/StringUTF16"), (0, u "newBytesLength"), (0, u "(I)I"), (3, .integer 1073741823), (23, .fieldref 12 45), (0, .nameAndType 46 47), (0, u "$assertionsDisabled"), (0, u "Z"), (0, .methodref 12 49), (0, .nameAndType 50 51), (0, u "length"), (0, u "([B)I"), (7, .fieldref 12 60), (0, .nameAndType 61 62), (0, u "HI_BYTE_SHIFT"), (0, u "I"), (0, .fieldref 12 64), (0, .nameAndType 65 62), (0, u "LO_BYTE_SHIFT"), (1, .methodref 12 68), (0, .nameAndType 69 70), (0, u "checkIndex"), (0, u "(I[B)V"), (0, .methodref 12 72), (0, .nameAndType 73 74), (0, u "getChar"), (0, u "([BI)C"), (32, .methodref 12 108), (0, .nameAndType 109 110), (0, u "newBytesFor"), (0, u "(I)[B"), (0, .methodref 12 112), (0, .nameAndType 113 114), (0, u "putChar"), (0, u "([BII)V"), (0, .methodref 12 116), (0, .nameAndType 117 118), (0, u "compress"), (0, u "([CI[BII)I"), (0, .methodref 12 120), (0, .nameAndType 121 122), (0, u "toBytes"), (0, u "([CII)[B"), (138, u "coderFromArrayLen"), (0, u "([BI)B"), (106, .class_ 371), (1, u "java/lang/StringUTF16$LinesSpliterator"), (20, u "charAt"), (21, .methodref 3 415), (0, .nameAndType 69 416), (0, u "(II)V"), (13, u "MAX_LENGTH"), (196, .class_ 628), (0, u "java/lang/StringUTF16$CodePointsSpliterator"), (0, .class_ 630), (0, u "java/lang/StringUTF16$CharsSpliterator")] 4

def k8m0 : Method := { name := "<init>", desc := "()V", sig := { parameters := [], returnType := none }, accessFlags := 0, code := none }
def k8c1 : Code := { maxStack := 1, maxLocals := 1, code := jdk_52_method_2_code, exceptionTable := #[], attributes := #[] }
def k8m1 : Method := { name := "newBytesFor", desc := "(I)[B", sig := { parameters := [.int], returnType := some (.array .byte) }, accessFlags := 9, code := some k8c1 }
def k8c2 : Code := { maxStack := 4, maxLocals := 1, code := jdk_52_method_3_code, exceptionTable := #[], attributes := #[] }
def k8m2 : Method := { name := "newBytesLength", desc := "(I)I", sig := { parameters := [.int], returnType := some .int }, accessFlags := 9, code := some k8c2 }
def k8c3 : Code := { maxStack := 4, maxLocals := 3, code := jdk_52_method_4_code, exceptionTable := #[], attributes := #[] }
def k8m3 : Method := { name := "putChar", desc := "([BII)V", sig := { parameters := [(.array .byte), .int, .int], returnType := none }, accessFlags := 8, code := some k8c3 }
def k8c4 : Code := { maxStack := 3, maxLocals := 2, code := jdk_52_method_5_code, exceptionTable := #[], attributes := #[] }
def k8m4 : Method := { name := "getChar", desc := "([BI)C", sig := { parameters := [(.array .byte), .int], returnType := some .char }, accessFlags := 8, code := some k8c4 }
def k8c5 : Code := { maxStack := 2, maxLocals := 1, code := jdk_52_method_6_code, exceptionTable := #[], attributes := #[] }
def k8m5 : Method := { name := "length", desc := "([B)I", sig := { parameters := [(.array .byte)], returnType := some .int }, accessFlags := 9, code := some k8c5 }
def k8c6 : Code := { maxStack := 4, maxLocals := 5, code := jdk_52_method_14_code, exceptionTable := #[], attributes := #[] }
def k8m6 : Method := { name := "toBytes", desc := "([CII)[B", sig := { parameters := [(.array .char), .int, .int], returnType := some (.array .byte) }, accessFlags := 9, code := some k8c6 }
def k8c7 : Code := { maxStack := 2, maxLocals := 2, code := jdk_52_method_15_code, exceptionTable := #[], attributes := #[] }
def k8m7 : Method := { name := "coderFromArrayLen", desc := "([BI)B", sig := { parameters := [(.array .byte), .int], returnType := some .byte }, accessFlags := 8, code := some k8c7 }
def k8c8 : Code := { maxStack := 5, maxLocals := 6, code := jdk_52_method_16_code, exceptionTable := #[], attributes := #[] }
def k8m8 : Method := { name := "compress", desc := "([CII)[B", sig := { parameters := [(.array .char), .int, .int], returnType := some (.array .byte) }, accessFlags := 9, code := some k8c8 }
def k8c9 : Code := { maxStack := 3, maxLocals := 7, code := jdk_52_method_21_code, exceptionTable := #[], attributes := #[] }
def k8m9 : Method := { name := "compress", desc := "([CI[BII)I", sig := { parameters := [(.array .char), .int, (.array .byte), .int, .int], returnType := some .int }, accessFlags := 9, code := some k8c9 }
def k8c10 : Code := { maxStack := 2, maxLocals := 2, code := jdk_52_method_83_code, exceptionTable := #[], attributes := #[] }
def k8m10 : Method := { name := "charAt", desc := "([BI)C", sig := { parameters := [(.array .byte), .int], returnType := some .char }, accessFlags := 9, code := some k8c10 }
def k8c11 : Code := { maxStack := 2, maxLocals := 2, code := jdk_52_method_91_code, exceptionTable := #[], attributes := #[] }
def k8m11 : Method := { name := "checkIndex", desc := "(I[B)V", sig := { parameters := [.int, (.array .byte)], returnType := none }, accessFlags := 9, code := some k8c11 }
/-- java/lang/StringUTF16 -/
def k8 : Class := { plain "java/lang/StringUTF16" (some 0) with
  accessFlags := 48
  interfaces := #[]
  cf := some (fileOf pool8 12 #[.nestMembers #[627, 629, 369]] #[{ accessFlags := 0, nameIndex := 9, descriptorIndex := 10, attributes := #[] }, { accessFlags := 9, nameIndex := 109, descriptorIndex := 110, attributes := #[] }, { accessFlags := 9, nameIndex := 15, descriptorIndex := 16, attributes := #[] }, { accessFlags := 8, nameIndex := 113, descriptorIndex := 114, attributes := #[] }, { accessFlags := 8, nameIndex := 73, descriptorIndex := 74, attributes := #[] }, { accessFlags := 9, nameIndex := 50, descriptorIndex := 51, attributes := #[] }, { accessFlags := 9, nameIndex := 121, descriptorIndex := 122, attributes := #[] }, { accessFlags := 8, nameIndex := 261, descriptorIndex := 262, attributes := #[] }, { accessFlags := 9, nameIndex := 117, descriptorIndex := 122, attributes := #[] }, { accessFlags := 9, nameIndex := 117, descriptorIndex := 118, attributes := #[] }, { accessFlags := 9, nameIndex := 392, descriptorIndex := 74, attributes := #[] }, { accessFlags := 9, nameIndex := 69, descriptorIndex := 70, attributes := #[] }] 48 6 #[] #[{ accessFlags := 26, nameIndex := 61, descriptorIndex := 62, attributes := #[] }, { accessFlags := 26, nameIndex := 65, descriptorIndex := 62, attributes := #[] }, { accessFlags := 24, nameIndex := 430, descriptorIndex := 62, attributes := #[] }, { accessFlags := 4120, nameIndex := 46, descriptorIndex := 47, attributes := #[] }])
  fields := #[{ name := "HI_BYTE_SHIFT", type := .int, accessFlags := 26, slot := 0, constantValue := 0 }, { name := "LO_BYTE_SHIFT", type := .int, accessFlags := 26, slot := 1, constantValue := 0 }, { name := "MAX_LENGTH", type := .int, accessFlags := 24, slot := 2, constantValue := 0 }, { name := "$assertionsDisabled", type := .boolean, accessFlags := 4120, slot := 3, constantValue := 0 }]
  methods := #[k8m0, k8m1, k8m2, k8m3, k8m4, k8m5, k8m6, k8m7, k8m8, k8m9, k8m10, k8m11]
  instanceTypes := #[]
  staticTypes := #[.int, .int, .int, .boolean]
  resolved := Array.replicate 635 none
  statics := some 1 }

def pool9 : Array CpInfo := pool [(1, .class_ 2), (0, u "com/example/harborspread/harborspread/Decimals"), (1, .class_ 6), (1, u "java/lang/Object"), (0, u "<init>"), (0, u "()V"), (25, .class_ 36), (1, u "java/lang/String"), (69, .methodref 34 107), (0, .nameAndType 108 109), (0, u "charAt"), (0, u "(I)C"), (33, u "isDigits"), (0, u "(Ljava/lang/String;II)Z"), (0, u "READ_AT_ONCE"), (0, u "I"), (2, u "LONG_DIGITS"), (1, u "WRITTEN_ZEROS"), (1, u "TOO_LONG"), (0, u "Ljava/lang/String;")] 57

def k9m0 : Method := { name := "<init>", desc := "()V", sig := { parameters := [], returnType := none }, accessFlags := 2, code := none }
def k9c1 : Code := { maxStack := 2, maxLocals := 5, code := prog_21_method_11_code, exceptionTable := #[], attributes := #[] }
def k9m1 : Method := { name := "isDigits", desc := "(Ljava/lang/String;II)Z", sig := { parameters := [(.object "java/lang/String"), .int, .int], returnType := some .boolean }, accessFlags := 8, code := some k9c1 }
/-- com/example/harborspread/harborspread/Decimals -/
def k9 : Class := { plain "com/example/harborspread/harborspread/Decimals" (some 0) with
  accessFlags := 48
  interfaces := #[]
  cf := some (fileOf pool9 1 #[] #[{ accessFlags := 2, nameIndex := 7, descriptorIndex := 8, attributes := #[] }, { accessFlags := 8, nameIndex := 143, descriptorIndex := 144, attributes := #[] }] 48 4 #[] #[{ accessFlags := 26, nameIndex := 145, descriptorIndex := 146, attributes := #[] }, { accessFlags := 26, nameIndex := 149, descriptorIndex := 146, attributes := #[] }, { accessFlags := 26, nameIndex := 151, descriptorIndex := 146, attributes := #[] }, { accessFlags := 24, nameIndex := 153, descriptorIndex := 154, attributes := #[] }])
  fields := #[{ name := "READ_AT_ONCE", type := .int, accessFlags := 26, slot := 0, constantValue := 0 }, { name := "LONG_DIGITS", type := .int, accessFlags := 26, slot := 1, constantValue := 0 }, { name := "WRITTEN_ZEROS", type := .int, accessFlags := 26, slot := 2, constantValue := 0 }, { name := "TOO_LONG", type := (.object "java/lang/String"), accessFlags := 24, slot := 3, constantValue := 0 }]
  methods := #[k9m0, k9m1]
  instanceTypes := #[]
  staticTypes := #[.int, .int, .int, (.object "java/lang/String")]
  resolved := Array.replicate 212 none
  statics := none }

def pool10 : Array CpInfo := pool [(1, .class_ 2), (0, u "java/lang/String"), (1, .class_ 6), (1, u "java/lang/Object"), (0, u "<init>"), (0, u "()V"), (0, .methodref 1 10), (0, .nameAndType 11 12), (0, u "checkIndex"), (0, u "(II)V"), (1, .class_ 16), (1, u "java/lang/StringLatin1"), (36, u "([BI)C"), (67, u "$assertionsDisabled"), (0, u "Z"), (98, .class_ 223), (1, u "java/lang/StringLatin1$LinesSpliterator"), (28, u "charAt"), (137, .class_ 391), (0, u "java/lang/StringLatin1$CharsSpliterator")] 3

def k10m0 : Method := { name := "<init>", desc := "()V", sig := { parameters := [], returnType := none }, accessFlags := 0, code := none }
def k10c1 : Code := { maxStack := 2, maxLocals := 2, code := jdk_43_method_2_code, exceptionTable := #[], attributes := #[] }
def k10m1 : Method := { name := "charAt", desc := "([BI)C", sig := { parameters := [(.array .byte), .int], returnType := some .char }, accessFlags := 9, code := some k10c1 }
/-- java/lang/StringLatin1 -/
def k10 : Class := { plain "java/lang/StringLatin1" (some 0) with
  accessFlags := 48
  interfaces := #[]
  cf := some (fileOf pool10 14 #[.nestMembers #[390, 221]] #[{ accessFlags := 0, nameIndex := 7, descriptorIndex := 8, attributes := #[] }, { accessFlags := 9, nameIndex := 252, descriptorIndex := 53, attributes := #[] }] 48 4 #[] #[{ accessFlags := 4120, nameIndex := 121, descriptorIndex := 122, attributes := #[] }])
  fields := #[{ name := "$assertionsDisabled", type := .boolean, accessFlags := 4120, slot := 0, constantValue := 0 }]
  methods := #[k10m0, k10m1]
  instanceTypes := #[]
  staticTypes := #[.boolean]
  resolved := Array.replicate 395 none
  statics := none }

def pool11 : Array CpInfo := pool [(2, .class_ 4), (1, u "java/lang/Object"), (0, u "<init>"), (0, u "()V"), (17, .class_ 26), (1, u "jdk/internal/util/Preconditions"), (6, u "checkIndex"), (21, .class_ 56), (0, u "jdk/internal/util/Preconditions$4"), (57, .class_ 115), (0, u "jdk/internal/util/Preconditions$1"), (7, u "SIOOBE_FORMATTER"), (0, u "Ljava/util/function/BiFunction;"), (0, .class_ 126), (0, u "jdk/internal/util/Preconditions$2"), (3, u "AIOOBE_FORMATTER"), (0, .class_ 132), (0, u "jdk/internal/util/Preconditions$3"), (3, u "IOOBE_FORMATTER"), (41, u "(IILjava/util/function/BiFunction;)I")] 15

def k11m0 : Method := { name := "<init>", desc := "()V", sig := { parameters := [], returnType := none }, accessFlags := 1, code := none }
def k11c1 : Code := { maxStack := 3, maxLocals := 3, code := jdk_41_method_11_code, exceptionTable := #[], attributes := #[] }
def k11m1 : Method := { name := "checkIndex", desc := "(IILjava/util/function/BiFunction;)I", sig := { parameters := [.int, .int, (.object "java/util/function/BiFunction")], returnType := some .int }, accessFlags := 9, code := some k11c1 }
/-- jdk/internal/util/Preconditions -/
def k11 : Class := { plain "jdk/internal/util/Preconditions" (some 0) with
  accessFlags := 33
  interfaces := #[]
  cf := some (fileOf pool11 24 #[.nestMembers #[55, 131, 125, 114]] #[{ accessFlags := 1, nameIndex := 5, descriptorIndex := 6, attributes := #[] }, { accessFlags := 9, nameIndex := 33, descriptorIndex := 178, attributes := #[] }] 33 2 #[] #[{ accessFlags := 25, nameIndex := 123, descriptorIndex := 124, attributes := #[] }, { accessFlags := 25, nameIndex := 130, descriptorIndex := 124, attributes := #[] }, { accessFlags := 25, nameIndex := 136, descriptorIndex := 124, attributes := #[] }])
  fields := #[{ name := "SIOOBE_FORMATTER", type := (.object "java/util/function/BiFunction"), accessFlags := 25, slot := 0, constantValue := 0 }, { name := "AIOOBE_FORMATTER", type := (.object "java/util/function/BiFunction"), accessFlags := 25, slot := 1, constantValue := 0 }, { name := "IOOBE_FORMATTER", type := (.object "java/util/function/BiFunction"), accessFlags := 25, slot := 2, constantValue := 0 }]
  methods := #[k11m0, k11m1]
  instanceTypes := #[]
  staticTypes := #[(.object "java/util/function/BiFunction"), (.object "java/util/function/BiFunction"), (.object "java/util/function/BiFunction")]
  resolved := Array.replicate 194 none
  statics := some 2 }

def pool12 : Array CpInfo := pool [(9, u "<init>"), (6, .class_ 18), (1, u "java/lang/Object"), (0, u "()V"), (1, .class_ 23), (1, u "jdk/internal/util/ArraysSupport"), (0, u "LOG2_ARRAY_LONG_INDEX_SCALE"), (0, u "I"), (2, u "U"), (0, u "Ljdk/internal/misc/Unsafe;"), (8, u "BIG_ENDIAN"), (0, u "Z"), (8, u "LOG2_BYTE_BIT_SIZE"), (4, u "LOG2_ARRAY_INT_INDEX_SCALE"), (54, u "JLA"), (0, u "Ljdk/internal/access/JavaLangAccess;"), (11, u "LOG2_ARRAY_BOOLEAN_INDEX_SCALE"), (9, u "LOG2_ARRAY_BYTE_INDEX_SCALE"), (5, u "LOG2_ARRAY_CHAR_INDEX_SCALE"), (5, u "LOG2_ARRAY_SHORT_INDEX_SCALE"), (18, u "LOG2_ARRAY_FLOAT_INDEX_SCALE"), (24, u "LOG2_ARRAY_DOUBLE_INDEX_SCALE"), (89, u "T_BOOLEAN"), (2, u "T_CHAR"), (1, u "T_FLOAT"), (1, u "T_DOUBLE"), (1, u "T_BYTE"), (1, u "T_SHORT"), (1, u "T_INT"), (1, u "T_LONG"), (1, u "SOFT_MAX_ARRAY_LENGTH")] 83

def k12m0 : Method := { name := "<init>", desc := "()V", sig := { parameters := [], returnType := none }, accessFlags := 2, code := none }
/-- jdk/internal/util/ArraysSupport -/
def k12 : Class := { plain "jdk/internal/util/ArraysSupport" (some 0) with
  accessFlags := 33
  interfaces := #[]
  cf := some (fileOf pool12 21 #[] #[{ accessFlags := 2, nameIndex := 9, descriptorIndex := 19, attributes := #[] }] 33 16 #[] #[{ accessFlags := 24, nameIndex := 28, descriptorIndex := 29, attributes := #[] }, { accessFlags := 26, nameIndex := 38, descriptorIndex := 39, attributes := #[] }, { accessFlags := 25, nameIndex := 121, descriptorIndex := 25, attributes := #[] }, { accessFlags := 25, nameIndex := 131, descriptorIndex := 25, attributes := #[] }, { accessFlags := 25, nameIndex := 137, descriptorIndex := 25, attributes := #[] }, { accessFlags := 25, nameIndex := 143, descriptorIndex := 25, attributes := #[] }, { accessFlags := 25, nameIndex := 53, descriptorIndex := 25, attributes := #[] }, { accessFlags := 25, nameIndex := 24, descriptorIndex := 25, attributes := #[] }, { accessFlags := 25, nameIndex := 162, descriptorIndex := 25, attributes := #[] }, { accessFlags := 25, nameIndex := 187, descriptorIndex := 25, attributes := #[] }, { accessFlags := 26, nameIndex := 48, descriptorIndex := 25, attributes := #[] }, { accessFlags := 25, nameIndex := 277, descriptorIndex := 25, attributes := #[] }, { accessFlags := 25, nameIndex := 280, descriptorIndex := 25, attributes := #[] }, { accessFlags := 25, nameIndex := 282, descriptorIndex := 25, attributes := #[] }, { accessFlags := 25, nameIndex := 284, descriptorIndex := 25, attributes := #[] }, { accessFlags := 25, nameIndex := 286, descriptorIndex := 25, attributes := #[] }, { accessFlags := 25, nameIndex := 288, descriptorIndex := 25, attributes := #[] }, { accessFlags := 25, nameIndex := 290, descriptorIndex := 25, attributes := #[] }, { accessFlags := 25, nameIndex := 292, descriptorIndex := 25, attributes := #[] }, { accessFlags := 26, nameIndex := 108, descriptorIndex := 109, attributes := #[] }, { accessFlags := 25, nameIndex := 294, descriptorIndex := 25, attributes := #[] }])
  fields := #[{ name := "U", type := (.object "jdk/internal/misc/Unsafe"), accessFlags := 24, slot := 0, constantValue := 0 }, { name := "BIG_ENDIAN", type := .boolean, accessFlags := 26, slot := 1, constantValue := 0 }, { name := "LOG2_ARRAY_BOOLEAN_INDEX_SCALE", type := .int, accessFlags := 25, slot := 2, constantValue := 0 }, { name := "LOG2_ARRAY_BYTE_INDEX_SCALE", type := .int, accessFlags := 25, slot := 3, constantValue := 0 }, { name := "LOG2_ARRAY_CHAR_INDEX_SCALE", type := .int, accessFlags := 25, slot := 4, constantValue := 0 }, { name := "LOG2_ARRAY_SHORT_INDEX_SCALE", type := .int, accessFlags := 25, slot := 5, constantValue := 0 }, { name := "LOG2_ARRAY_INT_INDEX_SCALE", type := .int, accessFlags := 25, slot := 6, constantValue := 0 }, { name := "LOG2_ARRAY_LONG_INDEX_SCALE", type := .int, accessFlags := 25, slot := 7, constantValue := 0 }, { name := "LOG2_ARRAY_FLOAT_INDEX_SCALE", type := .int, accessFlags := 25, slot := 8, constantValue := 0 }, { name := "LOG2_ARRAY_DOUBLE_INDEX_SCALE", type := .int, accessFlags := 25, slot := 9, constantValue := 0 }, { name := "LOG2_BYTE_BIT_SIZE", type := .int, accessFlags := 26, slot := 10, constantValue := 0 }, { name := "T_BOOLEAN", type := .int, accessFlags := 25, slot := 11, constantValue := 0 }, { name := "T_CHAR", type := .int, accessFlags := 25, slot := 12, constantValue := 0 }, { name := "T_FLOAT", type := .int, accessFlags := 25, slot := 13, constantValue := 0 }, { name := "T_DOUBLE", type := .int, accessFlags := 25, slot := 14, constantValue := 0 }, { name := "T_BYTE", type := .int, accessFlags := 25, slot := 15, constantValue := 0 }, { name := "T_SHORT", type := .int, accessFlags := 25, slot := 16, constantValue := 0 }, { name := "T_INT", type := .int, accessFlags := 25, slot := 17, constantValue := 0 }, { name := "T_LONG", type := .int, accessFlags := 25, slot := 18, constantValue := 0 }, { name := "JLA", type := (.object "jdk/internal/access/JavaLangAccess"), accessFlags := 26, slot := 19, constantValue := 0 }, { name := "SOFT_MAX_ARRAY_LENGTH", type := .int, accessFlags := 25, slot := 20, constantValue := 0 }]
  methods := #[k12m0]
  instanceTypes := #[]
  staticTypes := #[(.object "jdk/internal/misc/Unsafe"), .boolean, .int, .int, .int, .int, .int, .int, .int, .int, .int, .int, .int, .int, .int, .int, .int, .int, .int, (.object "jdk/internal/access/JavaLangAccess"), .int]
  resolved := Array.replicate 378 none
  statics := none }

def pool13 : Array CpInfo := pool [(1, u "java/lang/Cloneable"), (0, .class_ 1), (0, u "java/lang/Object"), (0, .class_ 3)] 3

/-- java/lang/Cloneable -/
def k13 : Class := { plain "java/lang/Cloneable" (some 0) with
  accessFlags := 1537
  interfaces := #[]
  cf := some (fileOf pool13 2 #[] #[] 1537 4 #[] #[])
  fields := #[]
  methods := #[]
  instanceTypes := #[]
  staticTypes := #[]
  resolved := Array.replicate 8 none
  statics := none }

/-- the primitive byte -/
def k14 : Class := { plain "byte" none with kind := .primitive 'B', accessFlags := 0x411 }
/-- [B -/
def k15 : Class := { plain "[B" (some 0) with kind := .array 14 .byte, interfaces := #[13, 2], accessFlags := 1041 }

/-- the primitive char -/
def k16 : Class := { plain "char" none with kind := .primitive 'C', accessFlags := 0x411 }
/-- [C -/
def k17 : Class := { plain "[C" (some 0) with kind := .array 16 .char, interfaces := #[13, 2], accessFlags := 1041 }

/-- the primitive int -/
def k18 : Class := { plain "int" none with kind := .primitive 'I', accessFlags := 0x411 }
/-- [I -/
def k19 : Class := { plain "[I" (some 0) with kind := .array 18 .int, interfaces := #[13, 2], accessFlags := 1041 }

def heap : Heap := #[{ cls := 7, slots := #[.long 0, .int 1, .null, .int 0, .null, .int 0, .int 0], vm := .statics 7 },
  { cls := 8, slots := #[.int 0, .int 8, .int 0, .int 1], vm := .statics 8 },
  { cls := 11, slots := #[.null, .null, .null], vm := .statics 11 }]
def classes : Array Class := #[k0, k1, k2, k3, k4, k5, k6, k7, k8, k9, k10, k11, k12, k13, k14, k15, k16, k17, k18, k19]
def interned : List (Array UInt16 × Addr) := []
def slotsUsed : Nat := 14
def theMethod : MethodId := ⟨1, 3⟩
def args0 : Array Value := #[.int 48, .int 49, .int 50, .int 51, .int 32]
def aboutOver (below : List Frame) : State where
  vm := { classes := classes, interned := interned.toArray }
  heap := heap
  slotsUsed := slotsUsed
  threads := #[{ frames := .invoking theMethod args0 :: below }]
def below0 : List Frame := [.native { method := ⟨0, 0⟩, args := #[] }]
def about1 : State := aboutOver below0
def p0 : Program := .bare "" "" ""
def e0 : Env := launch0.env 0 0 0
theorem w_frames : about1.frames = Frame.invoking theMethod args0 :: below0 := rfl
set_option maxRecDepth 65536 in
theorem w_args : argsFit about1.vm theMethod args0 = true := by decide +kernel
set_option maxRecDepth 65536 in
theorem w_heap : heapFits about1 = true := by decide +kernel
set_option maxRecDepth 65536 in
theorem w_runnable : about1.curStatus? = some .runnable := by decide +kernel
set_option maxRecDepth 65536 in
theorem w_alone : about1.alone = true := by decide +kernel
set_option maxRecDepth 65536 in
theorem w_named : about1.methodNamed? x = some theMethod := by decide +kernel
set_option maxRecDepth 65536 in
theorem w_hears : about1.hears theMethod below0 = true := by decide +kernel
set_option maxRecDepth 65536 in
theorem w_ripe : about1.ripe theMethod args0 below0 = true := by decide +kernel
theorem w_running : about1.status = .running := rfl
set_option maxRecDepth 65536 in
theorem w_room : about1.hasRoom e0.platform room_1 = true :=
  launch0.hasRoom_least _ room_1 (by decide +kernel) (by decide +kernel) (by decide +kernel) (by decide +kernel) (by decide +kernel) (by decide +kernel)
theorem allAtoms_all (ts : List Jvm.Cond) (a : Array Jvm.Value) (st : Jvm.State) : (allAtoms ts).before a st = ts.all (fun c => c.before a st) := by
  induction ts with
  | nil => rfl
  | cons c t ih =>
    show (Jvm.Cond.and c (allAtoms t)).before a st = _
    rw [Jvm.Cond.before_and, ih, List.all_cons]
def words1 : List Jvm.Cond := Jvm.Cond.code x code maxLocals ret :: tables_1
/-- a 'code' word, met by the world's own term for the bytes: nothing is compared byte by byte -/
theorem code_word {y : MethodName} {bytes : ByteArray} {mx : Nat} {rt : Option FieldType} {a : Array Value} {s : State} {m : MethodId} {meth : Method} {c : Code} (h1 : s.methodNamed? y = some m) (h2 : s.vm.method? m = some meth) (h3 : meth.code = some c) (h4 : c.code = bytes)
    (h5 : (c.maxLocals == mx && c.exceptionTable.isEmpty && decide (c.maxStack ≤ mostOperands) && decide (meth.sig.returnType = rt) && !meth.locks && decide (parseMethodDescriptor y.desc = some meth.sig)) = true) : (Jvm.Cond.code y bytes mx rt).before a s = true := by
  simp only [Bool.and_eq_true, beq_iff_eq, Bool.not_eq_true', decide_eq_true_eq] at h5
  obtain ⟨⟨⟨⟨⟨g1, g2⟩, g3⟩, g4⟩, g5⟩, g6⟩ := h5
  simp [Cond.before, Cond.holds, Cond.value, h1, h2, h3, h4, g1, g2, g3, g4, g5, g6]
def isCode : Jvm.Cond → Bool
  | .code _ _ _ _ => true
  | _ => false
theorem all_split {L : List Jvm.Cond} {P : Jvm.Cond → Bool} (h1 : L.all (fun c => isCode c || P c) = true) (h2 : ∀ c ∈ L.filter isCode, P c = true) : L.all P = true := by
  refine List.all_eq_true.mpr fun c hc => ?_
  have h := List.all_eq_true.mp h1 c hc
  rcases Bool.eq_false_or_eq_true (isCode c) with hi | hi
  · exact h2 c (List.mem_filter.mpr ⟨hc, hi⟩)
  · simpa [hi] using h
set_option maxRecDepth 65536 in
theorem w_c0 : (Jvm.Cond.code x code maxLocals ret).before args0 about1 = true := code_word (m := ⟨1, 3⟩) (meth := k1m3) (c := k1c3) (by decide +kernel) rfl rfl rfl (by decide +kernel)
set_option maxRecDepth 65536 in
theorem w_c1 : (Jvm.Cond.code ({ cls := "com/example/harborspread/harborspread/DecimalsIsDigitsPinLaw", name := "ch", desc := "(I)C" } : Jvm.MethodName) method_2_code (1 : Nat) (Option.some Jvm.ClassFile.FieldType.char)).before args0 about1 = true := code_word (m := ⟨1, 1⟩) (meth := k1m1) (c := k1c1) (by decide +kernel) rfl rfl rfl (by decide +kernel)
set_option maxRecDepth 65536 in
theorem w_c2 : (Jvm.Cond.code ({ cls := "java/lang/String", name := "<init>", desc := "([C)V" } : Jvm.MethodName) jdk_42_method_3_code (2 : Nat) (Option.none : Option Jvm.ClassFile.FieldType)).before args0 about1 = true := code_word (m := ⟨7, 1⟩) (meth := k7m1) (c := k7c1) (by decide +kernel) rfl rfl rfl (by decide +kernel)
set_option maxRecDepth 65536 in
theorem w_c3 : (Jvm.Cond.code ({ cls := "java/lang/String", name := "<init>", desc := "([CIILjava/lang/Void;)V" } : Jvm.MethodName) jdk_42_method_149_code (6 : Nat) (Option.none : Option Jvm.ClassFile.FieldType)).before args0 about1 = true := code_word (m := ⟨7, 3⟩) (meth := k7m3) (c := k7c3) (by decide +kernel) rfl rfl rfl (by decide +kernel)
set_option maxRecDepth 65536 in
theorem w_c4 : (Jvm.Cond.code ({ cls := "java/lang/Object", name := "<init>", desc := "()V" } : Jvm.MethodName) object_method_1_code (1 : Nat) (Option.none : Option Jvm.ClassFile.FieldType)).before args0 about1 = true := code_word (m := ⟨0, 0⟩) (meth := k0m0) (c := k0c0) (by decide +kernel) rfl rfl rfl (by decide +kernel)
set_option maxRecDepth 65536 in
theorem w_c5 : (Jvm.Cond.code ({ cls := "java/lang/StringUTF16", name := "compress", desc := "([CII)[B" } : Jvm.MethodName) jdk_52_method_16_code (6 : Nat) (Option.some (Jvm.ClassFile.FieldType.array Jvm.ClassFile.FieldType.byte))).before args0 about1 = true := code_word (m := ⟨8, 8⟩) (meth := k8m8) (c := k8c8) (by decide +kernel) rfl rfl rfl (by decide +kernel)
set_option maxRecDepth 65536 in
theorem w_c6 : (Jvm.Cond.code ({ cls := "java/lang/StringUTF16", name := "compress", desc := "([CI[BII)I" } : Jvm.MethodName) jdk_52_method_21_code (7 : Nat) (Option.some Jvm.ClassFile.FieldType.int)).before args0 about1 = true := code_word (m := ⟨8, 9⟩) (meth := k8m9) (c := k8c9) (by decide +kernel) rfl rfl rfl (by decide +kernel)
set_option maxRecDepth 65536 in
theorem w_c7 : (Jvm.Cond.code ({ cls := "java/lang/StringUTF16", name := "coderFromArrayLen", desc := "([BI)B" } : Jvm.MethodName) jdk_52_method_15_code (2 : Nat) (Option.some Jvm.ClassFile.FieldType.byte)).before args0 about1 = true := code_word (m := ⟨8, 7⟩) (meth := k8m7) (c := k8c7) (by decide +kernel) rfl rfl rfl (by decide +kernel)
set_option maxRecDepth 65536 in
theorem w_c8 : (Jvm.Cond.code ({ cls := "com/example/harborspread/harborspread/Decimals", name := "isDigits", desc := "(Ljava/lang/String;II)Z" } : Jvm.MethodName) prog_21_method_11_code (5 : Nat) (Option.some Jvm.ClassFile.FieldType.boolean)).before args0 about1 = true := code_word (m := ⟨9, 1⟩) (meth := k9m1) (c := k9c1) (by decide +kernel) rfl rfl rfl (by decide +kernel)
set_option maxRecDepth 65536 in
theorem w_c9 : (Jvm.Cond.code ({ cls := "java/lang/StringUTF16", name := "toBytes", desc := "([CII)[B" } : Jvm.MethodName) jdk_52_method_14_code (5 : Nat) (Option.some (Jvm.ClassFile.FieldType.array Jvm.ClassFile.FieldType.byte))).before args0 about1 = true := code_word (m := ⟨8, 6⟩) (meth := k8m6) (c := k8c6) (by decide +kernel) rfl rfl rfl (by decide +kernel)
set_option maxRecDepth 65536 in
theorem w_c10 : (Jvm.Cond.code ({ cls := "java/lang/StringUTF16", name := "newBytesFor", desc := "(I)[B" } : Jvm.MethodName) jdk_52_method_2_code (1 : Nat) (Option.some (Jvm.ClassFile.FieldType.array Jvm.ClassFile.FieldType.byte))).before args0 about1 = true := code_word (m := ⟨8, 1⟩) (meth := k8m1) (c := k8c1) (by decide +kernel) rfl rfl rfl (by decide +kernel)
set_option maxRecDepth 65536 in
theorem w_c11 : (Jvm.Cond.code ({ cls := "java/lang/StringUTF16", name := "newBytesLength", desc := "(I)I" } : Jvm.MethodName) jdk_52_method_3_code (1 : Nat) (Option.some Jvm.ClassFile.FieldType.int)).before args0 about1 = true := code_word (m := ⟨8, 2⟩) (meth := k8m2) (c := k8c2) (by decide +kernel) rfl rfl rfl (by decide +kernel)
set_option maxRecDepth 65536 in
theorem w_c12 : (Jvm.Cond.code ({ cls := "java/lang/StringUTF16", name := "putChar", desc := "([BII)V" } : Jvm.MethodName) jdk_52_method_4_code (3 : Nat) (Option.none : Option Jvm.ClassFile.FieldType)).before args0 about1 = true := code_word (m := ⟨8, 3⟩) (meth := k8m3) (c := k8c3) (by decide +kernel) rfl rfl rfl (by decide +kernel)
set_option maxRecDepth 65536 in
theorem w_c13 : (Jvm.Cond.code ({ cls := "java/lang/StringUTF16", name := "getChar", desc := "([BI)C" } : Jvm.MethodName) jdk_52_method_5_code (2 : Nat) (Option.some Jvm.ClassFile.FieldType.char)).before args0 about1 = true := code_word (m := ⟨8, 4⟩) (meth := k8m4) (c := k8c4) (by decide +kernel) rfl rfl rfl (by decide +kernel)
set_option maxRecDepth 65536 in
theorem w_c14 : (Jvm.Cond.code ({ cls := "com/example/harborspread/harborspread/DecimalsIsDigitsPinLaw", name := "fine", desc := "(CIII)Z" } : Jvm.MethodName) method_3_code (4 : Nat) (Option.some Jvm.ClassFile.FieldType.boolean)).before args0 about1 = true := code_word (m := ⟨1, 2⟩) (meth := k1m2) (c := k1c2) (by decide +kernel) rfl rfl rfl (by decide +kernel)
set_option maxRecDepth 65536 in
theorem w_c15 : (Jvm.Cond.code ({ cls := "java/lang/String", name := "charAt", desc := "(I)C" } : Jvm.MethodName) jdk_42_method_56_code (2 : Nat) (Option.some Jvm.ClassFile.FieldType.char)).before args0 about1 = true := code_word (m := ⟨7, 2⟩) (meth := k7m2) (c := k7c2) (by decide +kernel) rfl rfl rfl (by decide +kernel)
set_option maxRecDepth 65536 in
theorem w_c16 : (Jvm.Cond.code ({ cls := "java/lang/String", name := "isLatin1", desc := "()Z" } : Jvm.MethodName) jdk_42_method_154_code (1 : Nat) (Option.some Jvm.ClassFile.FieldType.boolean)).before args0 about1 = true := code_word (m := ⟨7, 4⟩) (meth := k7m4) (c := k7c4) (by decide +kernel) rfl rfl rfl (by decide +kernel)
set_option maxRecDepth 65536 in
theorem w_c17 : (Jvm.Cond.code ({ cls := "java/lang/StringLatin1", name := "charAt", desc := "([BI)C" } : Jvm.MethodName) jdk_43_method_2_code (2 : Nat) (Option.some Jvm.ClassFile.FieldType.char)).before args0 about1 = true := code_word (m := ⟨10, 1⟩) (meth := k10m1) (c := k10c1) (by decide +kernel) rfl rfl rfl (by decide +kernel)
set_option maxRecDepth 65536 in
theorem w_c18 : (Jvm.Cond.code ({ cls := "java/lang/String", name := "checkIndex", desc := "(II)V" } : Jvm.MethodName) jdk_42_method_155_code (2 : Nat) (Option.none : Option Jvm.ClassFile.FieldType)).before args0 about1 = true := code_word (m := ⟨7, 5⟩) (meth := k7m5) (c := k7c5) (by decide +kernel) rfl rfl rfl (by decide +kernel)
set_option maxRecDepth 65536 in
theorem w_c19 : (Jvm.Cond.code ({ cls := "jdk/internal/util/Preconditions", name := "checkIndex", desc := "(IILjava/util/function/BiFunction;)I" } : Jvm.MethodName) jdk_41_method_11_code (3 : Nat) (Option.some Jvm.ClassFile.FieldType.int)).before args0 about1 = true := code_word (m := ⟨11, 1⟩) (meth := k11m1) (c := k11c1) (by decide +kernel) rfl rfl rfl (by decide +kernel)
set_option maxRecDepth 65536 in
theorem w_c20 : (Jvm.Cond.code ({ cls := "java/lang/StringUTF16", name := "charAt", desc := "([BI)C" } : Jvm.MethodName) jdk_52_method_83_code (2 : Nat) (Option.some Jvm.ClassFile.FieldType.char)).before args0 about1 = true := code_word (m := ⟨8, 10⟩) (meth := k8m10) (c := k8c10) (by decide +kernel) rfl rfl rfl (by decide +kernel)
set_option maxRecDepth 65536 in
theorem w_c21 : (Jvm.Cond.code ({ cls := "java/lang/StringUTF16", name := "checkIndex", desc := "(I[B)V" } : Jvm.MethodName) jdk_52_method_91_code (2 : Nat) (Option.none : Option Jvm.ClassFile.FieldType)).before args0 about1 = true := code_word (m := ⟨8, 11⟩) (meth := k8m11) (c := k8c11) (by decide +kernel) rfl rfl rfl (by decide +kernel)
set_option maxRecDepth 65536 in
theorem w_c22 : (Jvm.Cond.code ({ cls := "java/lang/StringUTF16", name := "length", desc := "([B)I" } : Jvm.MethodName) jdk_52_method_6_code (1 : Nat) (Option.some Jvm.ClassFile.FieldType.int)).before args0 about1 = true := code_word (m := ⟨8, 5⟩) (meth := k8m5) (c := k8c5) (by decide +kernel) rfl rfl rfl (by decide +kernel)
def codes1 : List Jvm.Cond := [Jvm.Cond.code x code maxLocals ret, Jvm.Cond.code ({ cls := "com/example/harborspread/harborspread/DecimalsIsDigitsPinLaw", name := "ch", desc := "(I)C" } : Jvm.MethodName) method_2_code (1 : Nat) (Option.some Jvm.ClassFile.FieldType.char), Jvm.Cond.code ({ cls := "java/lang/String", name := "<init>", desc := "([C)V" } : Jvm.MethodName) jdk_42_method_3_code (2 : Nat) (Option.none : Option Jvm.ClassFile.FieldType), Jvm.Cond.code ({ cls := "java/lang/String", name := "<init>", desc := "([CIILjava/lang/Void;)V" } : Jvm.MethodName) jdk_42_method_149_code (6 : Nat) (Option.none : Option Jvm.ClassFile.FieldType), Jvm.Cond.code ({ cls := "java/lang/Object", name := "<init>", desc := "()V" } : Jvm.MethodName) object_method_1_code (1 : Nat) (Option.none : Option Jvm.ClassFile.FieldType), Jvm.Cond.code ({ cls := "java/lang/StringUTF16", name := "compress", desc := "([CII)[B" } : Jvm.MethodName) jdk_52_method_16_code (6 : Nat) (Option.some (Jvm.ClassFile.FieldType.array Jvm.ClassFile.FieldType.byte)), Jvm.Cond.code ({ cls := "java/lang/StringUTF16", name := "compress", desc := "([CI[BII)I" } : Jvm.MethodName) jdk_52_method_21_code (7 : Nat) (Option.some Jvm.ClassFile.FieldType.int), Jvm.Cond.code ({ cls := "java/lang/StringUTF16", name := "coderFromArrayLen", desc := "([BI)B" } : Jvm.MethodName) jdk_52_method_15_code (2 : Nat) (Option.some Jvm.ClassFile.FieldType.byte), Jvm.Cond.code ({ cls := "com/example/harborspread/harborspread/Decimals", name := "isDigits", desc := "(Ljava/lang/String;II)Z" } : Jvm.MethodName) prog_21_method_11_code (5 : Nat) (Option.some Jvm.ClassFile.FieldType.boolean), Jvm.Cond.code ({ cls := "java/lang/StringUTF16", name := "toBytes", desc := "([CII)[B" } : Jvm.MethodName) jdk_52_method_14_code (5 : Nat) (Option.some (Jvm.ClassFile.FieldType.array Jvm.ClassFile.FieldType.byte)), Jvm.Cond.code ({ cls := "java/lang/StringUTF16", name := "newBytesFor", desc := "(I)[B" } : Jvm.MethodName) jdk_52_method_2_code (1 : Nat) (Option.some (Jvm.ClassFile.FieldType.array Jvm.ClassFile.FieldType.byte)), Jvm.Cond.code ({ cls := "java/lang/StringUTF16", name := "newBytesLength", desc := "(I)I" } : Jvm.MethodName) jdk_52_method_3_code (1 : Nat) (Option.some Jvm.ClassFile.FieldType.int), Jvm.Cond.code ({ cls := "java/lang/StringUTF16", name := "putChar", desc := "([BII)V" } : Jvm.MethodName) jdk_52_method_4_code (3 : Nat) (Option.none : Option Jvm.ClassFile.FieldType), Jvm.Cond.code ({ cls := "java/lang/StringUTF16", name := "getChar", desc := "([BI)C" } : Jvm.MethodName) jdk_52_method_5_code (2 : Nat) (Option.some Jvm.ClassFile.FieldType.char), Jvm.Cond.code ({ cls := "com/example/harborspread/harborspread/DecimalsIsDigitsPinLaw", name := "fine", desc := "(CIII)Z" } : Jvm.MethodName) method_3_code (4 : Nat) (Option.some Jvm.ClassFile.FieldType.boolean), Jvm.Cond.code ({ cls := "java/lang/String", name := "charAt", desc := "(I)C" } : Jvm.MethodName) jdk_42_method_56_code (2 : Nat) (Option.some Jvm.ClassFile.FieldType.char), Jvm.Cond.code ({ cls := "java/lang/String", name := "isLatin1", desc := "()Z" } : Jvm.MethodName) jdk_42_method_154_code (1 : Nat) (Option.some Jvm.ClassFile.FieldType.boolean), Jvm.Cond.code ({ cls := "java/lang/StringLatin1", name := "charAt", desc := "([BI)C" } : Jvm.MethodName) jdk_43_method_2_code (2 : Nat) (Option.some Jvm.ClassFile.FieldType.char), Jvm.Cond.code ({ cls := "java/lang/String", name := "checkIndex", desc := "(II)V" } : Jvm.MethodName) jdk_42_method_155_code (2 : Nat) (Option.none : Option Jvm.ClassFile.FieldType), Jvm.Cond.code ({ cls := "jdk/internal/util/Preconditions", name := "checkIndex", desc := "(IILjava/util/function/BiFunction;)I" } : Jvm.MethodName) jdk_41_method_11_code (3 : Nat) (Option.some Jvm.ClassFile.FieldType.int), Jvm.Cond.code ({ cls := "java/lang/StringUTF16", name := "charAt", desc := "([BI)C" } : Jvm.MethodName) jdk_52_method_83_code (2 : Nat) (Option.some Jvm.ClassFile.FieldType.char), Jvm.Cond.code ({ cls := "java/lang/StringUTF16", name := "checkIndex", desc := "(I[B)V" } : Jvm.MethodName) jdk_52_method_91_code (2 : Nat) (Option.none : Option Jvm.ClassFile.FieldType), Jvm.Cond.code ({ cls := "java/lang/StringUTF16", name := "length", desc := "([B)I" } : Jvm.MethodName) jdk_52_method_6_code (1 : Nat) (Option.some Jvm.ClassFile.FieldType.int)]
set_option maxRecDepth 65536 in
theorem codes_eq : words1.filter isCode = codes1 := rfl
theorem w_codes : ∀ c ∈ words1.filter isCode, c.before args0 about1 = true := by
  rw [codes_eq]
  intro c hc
  simp only [codes1, List.mem_cons, List.not_mem_nil, or_false] at hc
  rcases hc with rfl | rfl | rfl | rfl | rfl | rfl | rfl | rfl | rfl | rfl | rfl | rfl | rfl | rfl | rfl | rfl | rfl | rfl | rfl | rfl | rfl | rfl | rfl
  · exact w_c0
  · exact w_c1
  · exact w_c2
  · exact w_c3
  · exact w_c4
  · exact w_c5
  · exact w_c6
  · exact w_c7
  · exact w_c8
  · exact w_c9
  · exact w_c10
  · exact w_c11
  · exact w_c12
  · exact w_c13
  · exact w_c14
  · exact w_c15
  · exact w_c16
  · exact w_c17
  · exact w_c18
  · exact w_c19
  · exact w_c20
  · exact w_c21
  · exact w_c22
set_option maxRecDepth 65536 in
theorem w_t1 : (words1.take 24).all (fun c => isCode c || c.before args0 about1) = true := by decide +kernel
set_option maxRecDepth 65536 in
theorem w_t2 : ((words1.drop 24).take 24).all (fun c => isCode c || c.before args0 about1) = true := by decide +kernel
set_option maxRecDepth 65536 in
theorem w_t3 : (((words1.drop 24).drop 24).take 24).all (fun c => isCode c || c.before args0 about1) = true := by decide +kernel
set_option maxRecDepth 65536 in
theorem w_t4 : (((words1.drop 24).drop 24).drop 24).all (fun c => isCode c || c.before args0 about1) = true := by decide +kernel
theorem w_tables : (allAtoms (Jvm.Cond.code x code maxLocals ret :: tables_1)).before args0 about1 = true := by
  rw [allAtoms_all]
  show words1.all (fun c => c.before args0 about1) = true
  refine all_split ?_ w_codes
  rw [← List.take_append_drop 24 words1, List.all_append, w_t1, ← List.take_append_drop 24 (words1.drop 24), List.all_append, w_t2, ← List.take_append_drop 24 ((words1.drop 24).drop 24), List.all_append, w_t3, w_t4]
  rfl
set_option maxRecDepth 65536 in
theorem w_rest : rest_1_c.before args0 about1 = true := by decide +kernel
set_option maxRecDepth 65536 in
theorem w_case : (Jvm.Cond.and given_1 narrow_1).before args0 about1 = true := by decide +kernel
theorem w_applies : (headSpec (Jvm.Cond.code x code maxLocals ret :: tables_1) room_1).applies x e0.platform about1 = true :=
  (Spec.applies_iff w_frames).mpr ⟨w_running, w_runnable, w_alone, w_named, w_hears, w_ripe, w_room, w_tables⟩
theorem atStart : AtStart classFile x code maxLocals ret World_1 tables_1 room_1 Calls_1 rest_1 Pre_1 launch0 p0 e0 about1 theMethod args0 below0 :=
  ⟨lists_1, trivial, launch0.admits_env _ _ _, launch0.least_env, fairChoices_fair.cas, fairChoices_fair.clock, w_frames, w_args, w_heap, w_applies, trivial, w_rest, w_case⟩
end start1
theorem witness_1 : WitnessClaimed_1 := ⟨start1.p0, start1.e0, start1.about1, start1.theMethod, start1.args0, start1.below0, start1.atStart⟩
end Jvm.Pilot.@@N@@
