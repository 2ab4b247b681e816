import JvmDerived
import JvmDerived.Pilot.@@N@@Statement
import JvmDerived.Pilot.@@N@@Code
set_option linter.unusedVariables false
set_option linter.unusedSimpArgs false
@@BLOCK:NumsL.lean.txt@@
namespace Jvm.Pilot.@@N@@
open Jvm Jvm.ClassFile Sem Op Lib Jvm.Free Jvm.Stand Jvm.LawKit Jvm.RoadKit Bundle Jvm.Pilot.@@N@@.Jvm.D
section OwnKit
variable {p : Program} {l : Launch} {e : Env} {R : Room} {s : State} {m : MethodId} {args : Array Value} {below : List Frame} {meth : Method} {c : Code} {T T' : State} {locs : List Loc} {cells slots : Nat} {Z : State} {a0 : Array Value} {h h' : Heap} {CC SS : Nat} {Q : Option Value → Heap → List Loc → Prop} {P : State → Prop} {g g' : JFrame} {pc q : Nat} {Ls l' : Array Slot} {st stk rest argsL : List Value}
/-- the run from here comes to a state of which P holds -/
def Go (p : Program) (e : Env) (below : List Frame) (P : State → Prop) (T : State) (g : JFrame) : Prop := ∃ s₂, Steps p.tables e below (T.setTop g) s₂ ∧ P s₂
/-- it ended by a return, and what it leaves is Q -/
def PN (below : List Frame) (s : State) (CC SS : Nat) (Q : Option Value → Heap → List Loc → Prop) (s₂ : State) : Prop :=
  s₂.status = .running ∧ ∃ v L, Ended s₂ below (.returned v) ∧ Q v s₂.heap L ∧ FrameEnd s (.returned v) s₂ L CC SS
theorem Go.back (K : Go p e below P T' g') (k : ∀ t, Steps p.tables e below (T'.setTop g') t → Steps p.tables e below (T.setTop g) t) : Go p e below P T g := by
  obtain ⟨s₂, h1, h2⟩ := K
  exact ⟨s₂, k _ h1, h2⟩
theorem own_le {n0 : Nat} (X : Old Z n0 h) : n0 ≤ h.size := X.1 ▸ X.2.1
theorem own_ge {n0 a : Nat} (X : Old Z n0 h) (g : a = h.size) : n0 ≤ a := g ▸ own_le X
theorem own_lt {a b : Nat} {h : Heap} (g : b = h.size) (k : a < h.size) : a ≠ b := by rw [g]; exact Nat.ne_of_lt k
theorem own_ltg {a b : Nat} {h : Heap} (g : h.size ≤ b) (k : a < h.size) : a ≠ b := Nat.ne_of_lt (Nat.lt_of_lt_of_le k g)
/-- what a body's walk shows -/
def Con (l : Launch) (Z : State) (y : MethodName) (bytes : ByteArray) (maxL : Nat) (ret : Option FieldType) (rm : Room) (as' : Array Value) (h0 : Heap) (Q : Option Value → Heap → List Loc → Prop) : Prop :=
  ∀ ws : List Jvm.Cond, MetFree l y (head1 (Jvm.Cond.code y bytes maxL ret :: ws) rm) (fun a U => a = as' ∧ Z.Warmed39 U.vm ∧ U.heap = h0) (fun _ _ _ _ _ => True) (fun _ U o U' => ∃ v L, o = .returned v ∧ Q v U'.heap L ∧ FrameEnd U o U' L rm.cells rm.slots)
theorem Con.of {y : MethodName} {bytes : ByteArray} {maxL : Nat} {ret : Option FieldType} {rm : Room} {as' : Array Value} {h0 : Heap} (hpl : plainFor y = true)
    (body : ∀ p e s m below meth c s₁, p.tables.exec = Jvm.exec → c.code = bytes → c.maxLocals = maxL → Z.Warmed39 s.vm → s.vm.findClass y.cls = some m.cls → meth.name = y.name → meth.sig.returnType = ret → meth.locks = false → Stand p l e rm s m as' below meth c s₁ [] 0 0 → s₁.heap = h0 → Go p e below (PN below s rm.cells rm.slots Q) s₁ (entryFrame m as' maxL)) : Con l Z y bytes maxL ret rm as' h0 Q := by
  intro ws
  refine MetFree.of_bodySF hpl hisR ?_
  intro p e s m args below meth c s₁ Bd hml0 hP hK
  obtain ⟨rfl, hZ, hh⟩ := hP
  obtain ⟨s₂, h1, h2, v, L, h3, h4, h5⟩ := body p e s m below meth c s₁ Bd.exec Bd.bytes hml0 hZ (findClass_of_methodNamed Bd.named) (name_of_methodNamed Bd.named Bd.method).1 Bd.returns Bd.notSynchronized (Stand.of_body Bd) (by rw [← hh, Bd.state]; rfl)
  exact ⟨s₂, _, h1, h2, h3, v, L, rfl, h4, h5⟩
theorem go_cast (K : Go p e below P T g') (k : g = g') : Go p e below P T g := k ▸ K
theorem go_ret0 (X : Stand p l e R s m args below meth c T locs cells slots) (hx : p.tables.exec = Jvm.exec) (hret : meth.sig.returnType = none) (hlk : meth.locks = false) (eT : T.heap = h) (hd : decode c.code pc = .ok (.return_, 1)) (hc : cells ≤ CC) (hs : slots ≤ SS) (hQ : Q none h locs) : Go p e below (PN below s CC SS Q) T (mkF m pc Ls []) := by
  obtain ⟨fs, hr, hrun, hended, hW, hsame⟩ := X.leave (v := none) (fun _ => rfl) hlk
  exact ⟨_, X.returnOut hx hret hd hr, hrun, _, _, hended, by rw [← eT] at hQ; exact hQ, ⟨_, rfl⟩, hW, hsame.mono hc hs⟩
theorem go_retA {t : FieldType} {w : Value} (X : Stand p l e R s m args below meth c T locs cells slots) (hx : p.tables.exec = Jvm.exec) (hret : meth.sig.returnType = some t) (hlk : meth.locks = false) (eT : T.heap = h) (hd : decode c.code pc = .ok (.areturn, 1)) (ht : t.isReference = true) (hw : w.isRef = true) (hn : narrow t w = w) (hc : cells ≤ CC) (hs : slots ≤ SS) (hQ : Q (some w) h locs) : Go p e below (PN below s CC SS Q) T (mkF m pc Ls (w :: st)) := by
  obtain ⟨fs, hr, hrun, hended, hW, hsame⟩ := X.leave (v := some w) (fun z => by rw [hret] at z; cases z) hlk
  exact ⟨_, retOut X hx hret hn (Or.inr (Or.inr (Or.inr (Or.inr ⟨rfl, ht, hw⟩)))) hd hr, hrun, _, _, hended, by rw [← eT] at hQ; exact hQ, ⟨_, rfl⟩, hW, hsame.mono hc hs⟩
theorem go_retI {t : FieldType} {z : Int32} (X : Stand p l e R s m args below meth c T locs cells slots) (hx : p.tables.exec = Jvm.exec) (hret : meth.sig.returnType = some t) (hlk : meth.locks = false) (eT : T.heap = h) (hd : decode c.code pc = .ok (.ireturn, 1)) (ht : t = .int ∨ t = .boolean ∨ t = .byte ∨ t = .char ∨ t = .short) (hn : narrow t (.int z) = .int z) (hc : cells ≤ CC) (hs : slots ≤ SS) (hQ : Q (some (.int z)) h locs) : Go p e below (PN below s CC SS Q) T (mkF m pc Ls (.int z :: st)) := by
  obtain ⟨fs, hr, hrun, hended, hW, hsame⟩ := X.leave (v := some (.int z)) (fun z => by rw [hret] at z; cases z) hlk
  exact ⟨_, retOut X hx hret hn (Or.inl ⟨rfl, ht, z, rfl⟩) hd hr, hrun, _, _, hended, by rw [← eT] at hQ; exact hQ, ⟨_, rfl⟩, hW, hsame.mono hc hs⟩
theorem go_retL {z : Int64} (X : Stand p l e R s m args below meth c T locs cells slots) (hx : p.tables.exec = Jvm.exec) (hret : meth.sig.returnType = some .long) (hlk : meth.locks = false) (eT : T.heap = h) (hd : decode c.code pc = .ok (.lreturn, 1)) (hc : cells ≤ CC) (hs : slots ≤ SS) (hQ : Q (some (.long z)) h locs) : Go p e below (PN below s CC SS Q) T (mkF m pc Ls (.long z :: st)) := by
  obtain ⟨fs, hr, hrun, hended, hW, hsame⟩ := X.leave (v := some (.long z)) (fun z => by rw [hret] at z; cases z) hlk
  exact ⟨_, retOut X hx hret rfl (Or.inr (Or.inl ⟨rfl, rfl, z, rfl⟩)) hd hr, hrun, _, _, hended, by rw [← eT] at hQ; exact hQ, ⟨_, rfl⟩, hW, hsame.mono hc hs⟩
theorem go_aload_n {k : Fin 4} {v : Value} (X : Stand p l e R s m args below meth c T locs cells slots) (hx : p.tables.exec = Jvm.exec) (hd : decode c.code pc = .ok (.aload_n k, 1)) (hl : Ls[k.val]? = some (.val v)) (hv : v.isRef = true) (hq : pc + 1 = q) (K : Go p e below P T (mkF m q Ls (v :: st))) : Go p e below P T (mkF m pc Ls st) := by
  subst hq; exact K.back fun _ j => XS.aloadN X.here hx rfl hd hl hv j
theorem go_aload {k : Nat} {v : Value} (X : Stand p l e R s m args below meth c T locs cells slots) (hx : p.tables.exec = Jvm.exec) (hd : decode c.code pc = .ok (.aload k, 2)) (hl : Ls[k]? = some (.val v)) (hv : v.isRef = true) (hq : pc + 2 = q) (K : Go p e below P T (mkF m q Ls (v :: st))) : Go p e below P T (mkF m pc Ls st) := by
  subst hq; exact K.back fun _ j => XS.aload X.here hx rfl hd hl hv j
theorem go_iload_n {k : Fin 4} {v : Int32} (X : Stand p l e R s m args below meth c T locs cells slots) (hx : p.tables.exec = Jvm.exec) (hd : decode c.code pc = .ok (.iload_n k, 1)) (hl : Ls[k.val]? = some (.val (.int v))) (hq : pc + 1 = q) (K : Go p e below P T (mkF m q Ls (.int v :: st))) : Go p e below P T (mkF m pc Ls st) := by
  subst hq; exact K.back fun _ j => XS.iloadN X.here hx rfl hd hl j
theorem go_iload {k : Nat} {v : Int32} (X : Stand p l e R s m args below meth c T locs cells slots) (hx : p.tables.exec = Jvm.exec) (hd : decode c.code pc = .ok (.iload k, 2)) (hl : Ls[k]? = some (.val (.int v))) (hq : pc + 2 = q) (K : Go p e below P T (mkF m q Ls (.int v :: st))) : Go p e below P T (mkF m pc Ls st) := by
  subst hq; exact K.back fun _ j => XS.iload X.here hx rfl hd hl j
theorem go_lload_n {k : Fin 4} {v : Int64} (X : Stand p l e R s m args below meth c T locs cells slots) (hx : p.tables.exec = Jvm.exec) (hd : decode c.code pc = .ok (.lload_n k, 1)) (hl : Ls[k.val]? = some (.val (.long v))) (hq : pc + 1 = q) (K : Go p e below P T (mkF m q Ls (.long v :: st))) : Go p e below P T (mkF m pc Ls st) := by
  subst hq; exact K.back fun _ j => XT.lloadN X.here hx rfl hd hl j
theorem go_lload {k : Nat} {v : Int64} (X : Stand p l e R s m args below meth c T locs cells slots) (hx : p.tables.exec = Jvm.exec) (hd : decode c.code pc = .ok (.lload k, 2)) (hl : Ls[k]? = some (.val (.long v))) (hq : pc + 2 = q) (K : Go p e below P T (mkF m q Ls (.long v :: st))) : Go p e below P T (mkF m pc Ls st) := by
  subst hq; exact K.back fun _ j => XT.lload X.here hx rfl hd hl j
theorem go_istore_n {k : Fin 4} {x : Int32} (X : Stand p l e R s m args below meth c T locs cells slots) (hx : p.tables.exec = Jvm.exec) (hd : decode c.code pc = .ok (.istore_n k, 1)) (hl : storeLocals Ls k.val (.int x) = some l') (hq : pc + 1 = q) (K : Go p e below P T (mkF m q l' st)) : Go p e below P T (mkF m pc Ls (.int x :: st)) := by
  subst hq; exact K.back fun _ j => XS.istoreN X.here hx rfl hd rfl hl j
theorem go_istore {k : Nat} {x : Int32} (X : Stand p l e R s m args below meth c T locs cells slots) (hx : p.tables.exec = Jvm.exec) (hd : decode c.code pc = .ok (.istore k, 2)) (hl : storeLocals Ls k (.int x) = some l') (hq : pc + 2 = q) (K : Go p e below P T (mkF m q l' st)) : Go p e below P T (mkF m pc Ls (.int x :: st)) := by
  subst hq; exact K.back fun _ j => XS.istore X.here hx rfl hd rfl hl j
theorem go_astore_n {k : Fin 4} {x : Value} (X : Stand p l e R s m args below meth c T locs cells slots) (hx : p.tables.exec = Jvm.exec) (hd : decode c.code pc = .ok (.astore_n k, 1)) (hv : x.isRef = true) (hl : storeLocals Ls k.val x = some l') (hq : pc + 1 = q) (K : Go p e below P T (mkF m q l' st)) : Go p e below P T (mkF m pc Ls (x :: st)) := by
  subst hq; exact K.back fun _ j => XS.astoreN X.here hx rfl hd rfl hv hl j
theorem go_astore {k : Nat} {x : Value} (X : Stand p l e R s m args below meth c T locs cells slots) (hx : p.tables.exec = Jvm.exec) (hd : decode c.code pc = .ok (.astore k, 2)) (hv : x.isRef = true) (hl : storeLocals Ls k x = some l') (hq : pc + 2 = q) (K : Go p e below P T (mkF m q l' st)) : Go p e below P T (mkF m pc Ls (x :: st)) := by
  subst hq; exact K.back fun _ j => XS.astore X.here hx rfl hd rfl hv hl j
theorem go_lstore_n {k : Fin 4} {x : Int64} (X : Stand p l e R s m args below meth c T locs cells slots) (hx : p.tables.exec = Jvm.exec) (hd : decode c.code pc = .ok (.lstore_n k, 1)) (hl : storeLocals Ls k.val (.long x) = some l') (hq : pc + 1 = q) (K : Go p e below P T (mkF m q l' st)) : Go p e below P T (mkF m pc Ls (.long x :: st)) := by
  subst hq; exact K.back fun _ j => XT.lstoreN X.here hx rfl hd rfl hl j
theorem go_lstore {k : Nat} {x : Int64} (X : Stand p l e R s m args below meth c T locs cells slots) (hx : p.tables.exec = Jvm.exec) (hd : decode c.code pc = .ok (.lstore k, 2)) (hl : storeLocals Ls k (.long x) = some l') (hq : pc + 2 = q) (K : Go p e below P T (mkF m q l' st)) : Go p e below P T (mkF m pc Ls (.long x :: st)) := by
  subst hq; exact K.back fun _ j => XT.lstore X.here hx rfl hd rfl hl j
theorem go_iconst {i : Int} {v : Int32} (X : Stand p l e R s m args below meth c T locs cells slots) (hx : p.tables.exec = Jvm.exec) (hd : decode c.code pc = .ok (.iconst i, 1)) (hv : Int32.ofInt i = v) (hq : pc + 1 = q) (K : Go p e below P T (mkF m q Ls (.int v :: st))) : Go p e below P T (mkF m pc Ls st) := by
  subst hq; exact K.back fun _ j => XT.iconstV X.here hx rfl v hd hv j
theorem go_bipush {i : Int} {v : Int32} (X : Stand p l e R s m args below meth c T locs cells slots) (hx : p.tables.exec = Jvm.exec) (hd : decode c.code pc = .ok (.bipush i, 2)) (hv : (Int8.ofInt i).toInt32 = v) (hq : pc + 2 = q) (K : Go p e below P T (mkF m q Ls (.int v :: st))) : Go p e below P T (mkF m pc Ls st) := by
  subst hq; exact K.back fun _ j => XT.bipushV X.here hx rfl v hd hv j
theorem go_sipush {i : Int} {v : Int32} (X : Stand p l e R s m args below meth c T locs cells slots) (hx : p.tables.exec = Jvm.exec) (hd : decode c.code pc = .ok (.sipush i, 3)) (hv : (Int16.ofInt i).toInt32 = v) (hq : pc + 3 = q) (K : Go p e below P T (mkF m q Ls (.int v :: st))) : Go p e below P T (mkF m pc Ls st) := by
  subst hq; exact K.back fun _ j => XT.sipushV X.here hx rfl v hd hv j
theorem go_lconst {k : Fin 2} {v : Int64} (X : Stand p l e R s m args below meth c T locs cells slots) (hx : p.tables.exec = Jvm.exec) (hd : decode c.code pc = .ok (.lconst k, 1)) (hv : Int64.ofNat k = v) (hq : pc + 1 = q) (K : Go p e below P T (mkF m q Ls (.long v :: st))) : Go p e below P T (mkF m pc Ls st) := by
  subst hq; exact K.back fun _ j => XT.lconstV X.here hx rfl v hd hv j
theorem go_aconst_null  (X : Stand p l e R s m args below meth c T locs cells slots) (hx : p.tables.exec = Jvm.exec) (hd : decode c.code pc = .ok (.aconst_null, 1))  (hq : pc + 1 = q) (K : Go p e below P T (mkF m q Ls (.null :: st))) : Go p e below P T (mkF m pc Ls st) := by
  subst hq; exact K.back fun _ j => XS.aconstNull X.here hx rfl hd j
theorem go_iadd {x y v : Int32} (X : Stand p l e R s m args below meth c T locs cells slots) (hx : p.tables.exec = Jvm.exec) (hd : decode c.code pc = .ok (.iadd, 1)) (hv : x + y = v) (hq : pc + 1 = q) (K : Go p e below P T (mkF m q Ls (.int v :: st))) : Go p e below P T (mkF m pc Ls (.int y :: .int x :: st)) := by
  subst hq; exact K.back fun _ j => XS.iadd X.here hx rfl hd rfl (hv ▸ j)
theorem go_isub {x y v : Int32} (X : Stand p l e R s m args below meth c T locs cells slots) (hx : p.tables.exec = Jvm.exec) (hd : decode c.code pc = .ok (.isub, 1)) (hv : x - y = v) (hq : pc + 1 = q) (K : Go p e below P T (mkF m q Ls (.int v :: st))) : Go p e below P T (mkF m pc Ls (.int y :: .int x :: st)) := by
  subst hq; exact K.back fun _ j => XS.isub X.here hx rfl hd rfl (hv ▸ j)
theorem go_imul {x y v : Int32} (X : Stand p l e R s m args below meth c T locs cells slots) (hx : p.tables.exec = Jvm.exec) (hd : decode c.code pc = .ok (.imul, 1)) (hv : x * y = v) (hq : pc + 1 = q) (K : Go p e below P T (mkF m q Ls (.int v :: st))) : Go p e below P T (mkF m pc Ls (.int y :: .int x :: st)) := by
  subst hq; exact K.back fun _ j => XS.imul X.here hx rfl hd rfl (hv ▸ j)
theorem go_iand {x y v : Int32} (X : Stand p l e R s m args below meth c T locs cells slots) (hx : p.tables.exec = Jvm.exec) (hd : decode c.code pc = .ok (.iand, 1)) (hv : x &&& y = v) (hq : pc + 1 = q) (K : Go p e below P T (mkF m q Ls (.int v :: st))) : Go p e below P T (mkF m pc Ls (.int y :: .int x :: st)) := by
  subst hq; exact K.back fun _ j => XS.iand X.here hx rfl hd rfl (hv ▸ j)
theorem go_ior {x y v : Int32} (X : Stand p l e R s m args below meth c T locs cells slots) (hx : p.tables.exec = Jvm.exec) (hd : decode c.code pc = .ok (.ior, 1)) (hv : x ||| y = v) (hq : pc + 1 = q) (K : Go p e below P T (mkF m q Ls (.int v :: st))) : Go p e below P T (mkF m pc Ls (.int y :: .int x :: st)) := by
  subst hq; exact K.back fun _ j => XT.ior X.here hx rfl hd rfl (hv ▸ j)
theorem go_ixor {x y v : Int32} (X : Stand p l e R s m args below meth c T locs cells slots) (hx : p.tables.exec = Jvm.exec) (hd : decode c.code pc = .ok (.ixor, 1)) (hv : x ^^^ y = v) (hq : pc + 1 = q) (K : Go p e below P T (mkF m q Ls (.int v :: st))) : Go p e below P T (mkF m pc Ls (.int y :: .int x :: st)) := by
  subst hq; exact K.back fun _ j => XT.ixor X.here hx rfl hd rfl (hv ▸ j)
theorem go_ishl {x y v : Int32} (X : Stand p l e R s m args below meth c T locs cells slots) (hx : p.tables.exec = Jvm.exec) (hd : decode c.code pc = .ok (.ishl, 1)) (hv : x <<< (y &&& 31) = v) (hq : pc + 1 = q) (K : Go p e below P T (mkF m q Ls (.int v :: st))) : Go p e below P T (mkF m pc Ls (.int y :: .int x :: st)) := by
  subst hq; exact K.back fun _ j => XT.ishl X.here hx rfl hd rfl (hv ▸ j)
theorem go_ishr {x y v : Int32} (X : Stand p l e R s m args below meth c T locs cells slots) (hx : p.tables.exec = Jvm.exec) (hd : decode c.code pc = .ok (.ishr, 1)) (hv : x >>> (y &&& 31) = v) (hq : pc + 1 = q) (K : Go p e below P T (mkF m q Ls (.int v :: st))) : Go p e below P T (mkF m pc Ls (.int y :: .int x :: st)) := by
  subst hq; exact K.back fun _ j => XT.ishr X.here hx rfl hd rfl (hv ▸ j)
theorem go_iushr {x y v : Int32} (X : Stand p l e R s m args below meth c T locs cells slots) (hx : p.tables.exec = Jvm.exec) (hd : decode c.code pc = .ok (.iushr, 1)) (hv : XT.ushr x y = v) (hq : pc + 1 = q) (K : Go p e below P T (mkF m q Ls (.int v :: st))) : Go p e below P T (mkF m pc Ls (.int y :: .int x :: st)) := by
  subst hq; exact K.back fun _ j => XT.iushr X.here hx rfl hd rfl (hv ▸ j)
theorem go_irem {x y : Int32} (X : Stand p l e R s m args below meth c T locs cells slots) (hx : p.tables.exec = Jvm.exec) (hd : decode c.code pc = .ok (.irem, 1)) (hy : y ≠ 0) (hq : pc + 1 = q) (K : Go p e below P T (mkF m q Ls (.int (x % y) :: st))) : Go p e below P T (mkF m pc Ls (.int y :: .int x :: st)) := by
  subst hq; exact K.back fun _ j => RoadKit.iremM X hx rfl hd rfl hy j
theorem go_idiv {x y : Int32} (X : Stand p l e R s m args below meth c T locs cells slots) (hx : p.tables.exec = Jvm.exec) (hd : decode c.code pc = .ok (.idiv, 1)) (hy : y ≠ 0) (hq : pc + 1 = q) (K : Go p e below P T (mkF m q Ls (.int (x / y) :: st))) : Go p e below P T (mkF m pc Ls (.int y :: .int x :: st)) := by
  subst hq; exact K.back fun _ j => XS.idiv X.here hx rfl hd rfl hy j
theorem go_i2c {x v : Int32} (X : Stand p l e R s m args below meth c T locs cells slots) (hx : p.tables.exec = Jvm.exec) (hd : decode c.code pc = .ok (.i2c, 1)) (hv : x.toUInt32.toUInt16.toUInt32.toInt32 = v) (hq : pc + 1 = q) (K : Go p e below P T (mkF m q Ls (.int v :: st))) : Go p e below P T (mkF m pc Ls (.int x :: st)) := by
  subst hq; exact K.back fun _ j => XT.i2c X.here hx rfl hd rfl (hv ▸ j)
theorem go_i2b {x v : Int32} (X : Stand p l e R s m args below meth c T locs cells slots) (hx : p.tables.exec = Jvm.exec) (hd : decode c.code pc = .ok (.i2b, 1)) (hv : x.toInt8.toInt32 = v) (hq : pc + 1 = q) (K : Go p e below P T (mkF m q Ls (.int v :: st))) : Go p e below P T (mkF m pc Ls (.int x :: st)) := by
  subst hq; exact K.back fun _ j => XT.i2b X.here hx rfl hd rfl (hv ▸ j)
theorem go_i2l {x : Int32} (X : Stand p l e R s m args below meth c T locs cells slots) (hx : p.tables.exec = Jvm.exec) (hd : decode c.code pc = .ok (.i2l, 1))  (hq : pc + 1 = q) (K : Go p e below P T (mkF m q Ls (.long x.toInt64 :: st))) : Go p e below P T (mkF m pc Ls (.int x :: st)) := by
  subst hq; exact K.back fun _ j => XT.i2l X.here hx rfl hd rfl j
theorem go_ladd {x y : Int64} (X : Stand p l e R s m args below meth c T locs cells slots) (hx : p.tables.exec = Jvm.exec) (hd : decode c.code pc = .ok (.ladd, 1))  (hq : pc + 1 = q) (K : Go p e below P T (mkF m q Ls (.long (x + y) :: st))) : Go p e below P T (mkF m pc Ls (.long y :: .long x :: st)) := by
  subst hq; exact K.back fun _ j => XT.ladd X.here hx rfl hd rfl j
theorem go_lsub {x y : Int64} (X : Stand p l e R s m args below meth c T locs cells slots) (hx : p.tables.exec = Jvm.exec) (hd : decode c.code pc = .ok (.lsub, 1))  (hq : pc + 1 = q) (K : Go p e below P T (mkF m q Ls (.long (x - y) :: st))) : Go p e below P T (mkF m pc Ls (.long y :: .long x :: st)) := by
  subst hq; exact K.back fun _ j => XT.lsub X.here hx rfl hd rfl j
theorem go_lmul {x y : Int64} (X : Stand p l e R s m args below meth c T locs cells slots) (hx : p.tables.exec = Jvm.exec) (hd : decode c.code pc = .ok (.lmul, 1))  (hq : pc + 1 = q) (K : Go p e below P T (mkF m q Ls (.long (x * y) :: st))) : Go p e below P T (mkF m pc Ls (.long y :: .long x :: st)) := by
  subst hq; exact K.back fun _ j => XT.lmul X.here hx rfl hd rfl j
theorem go_land {x y : Int64} (X : Stand p l e R s m args below meth c T locs cells slots) (hx : p.tables.exec = Jvm.exec) (hd : decode c.code pc = .ok (.land, 1))  (hq : pc + 1 = q) (K : Go p e below P T (mkF m q Ls (.long (x &&& y) :: st))) : Go p e below P T (mkF m pc Ls (.long y :: .long x :: st)) := by
  subst hq; exact K.back fun _ j => XT.land X.here hx rfl hd rfl j
theorem go_lor {x y : Int64} (X : Stand p l e R s m args below meth c T locs cells slots) (hx : p.tables.exec = Jvm.exec) (hd : decode c.code pc = .ok (.lor, 1))  (hq : pc + 1 = q) (K : Go p e below P T (mkF m q Ls (.long (x ||| y) :: st))) : Go p e below P T (mkF m pc Ls (.long y :: .long x :: st)) := by
  subst hq; exact K.back fun _ j => XT.lor X.here hx rfl hd rfl j
theorem go_lxor {x y : Int64} (X : Stand p l e R s m args below meth c T locs cells slots) (hx : p.tables.exec = Jvm.exec) (hd : decode c.code pc = .ok (.lxor, 1))  (hq : pc + 1 = q) (K : Go p e below P T (mkF m q Ls (.long (x ^^^ y) :: st))) : Go p e below P T (mkF m pc Ls (.long y :: .long x :: st)) := by
  subst hq; exact K.back fun _ j => XT.lxor X.here hx rfl hd rfl j
theorem go_lshl {x : Int64} {y : Int32} (X : Stand p l e R s m args below meth c T locs cells slots) (hx : p.tables.exec = Jvm.exec) (hd : decode c.code pc = .ok (.lshl, 1))  (hq : pc + 1 = q) (K : Go p e below P T (mkF m q Ls (.long (x <<< (y.toInt64 &&& 63)) :: st))) : Go p e below P T (mkF m pc Ls (.int y :: .long x :: st)) := by
  subst hq; exact K.back fun _ j => XT.lshl X.here hx rfl hd rfl j
theorem go_lcmp {x y : Int64} (X : Stand p l e R s m args below meth c T locs cells slots) (hx : p.tables.exec = Jvm.exec) (hd : decode c.code pc = .ok (.lcmp, 1))  (hq : pc + 1 = q) (K : Go p e below P T (mkF m q Ls (.int (XT.cmpL x y) :: st))) : Go p e below P T (mkF m pc Ls (.long y :: .long x :: st)) := by
  subst hq; exact K.back fun _ j => XT.lcmp X.here hx rfl hd rfl j
theorem go_dload_n {k : Fin 4} {v : UInt64} (X : Stand p l e R s m args below meth c T locs cells slots) (hx : p.tables.exec = Jvm.exec) (hd : decode c.code pc = .ok (.dload_n k, 1)) (hl : Ls[k.val]? = some (.val (.double v))) (hq : pc + 1 = q) (K : Go p e below P T (mkF m q Ls (.double v :: st))) : Go p e below P T (mkF m pc Ls st) := by
  subst hq; exact K.back fun _ j => XS.dloadN X.here hx rfl hd hl j
theorem go_dload {k : Nat} {v : UInt64} (X : Stand p l e R s m args below meth c T locs cells slots) (hx : p.tables.exec = Jvm.exec) (hd : decode c.code pc = .ok (.dload k, 2)) (hl : Ls[k]? = some (.val (.double v))) (hq : pc + 2 = q) (K : Go p e below P T (mkF m q Ls (.double v :: st))) : Go p e below P T (mkF m pc Ls st) := by
  subst hq; exact K.back fun _ j => XS.dload X.here hx rfl hd hl j
theorem go_dstore_n {k : Fin 4} {x : UInt64} (X : Stand p l e R s m args below meth c T locs cells slots) (hx : p.tables.exec = Jvm.exec) (hd : decode c.code pc = .ok (.dstore_n k, 1)) (hl : storeLocals Ls k.val (.double x) = some l') (hq : pc + 1 = q) (K : Go p e below P T (mkF m q l' st)) : Go p e below P T (mkF m pc Ls (.double x :: st)) := by
  subst hq; exact K.back fun _ j => XS.dstoreN X.here hx rfl hd rfl hl j
theorem go_dstore {k : Nat} {x : UInt64} (X : Stand p l e R s m args below meth c T locs cells slots) (hx : p.tables.exec = Jvm.exec) (hd : decode c.code pc = .ok (.dstore k, 2)) (hl : storeLocals Ls k (.double x) = some l') (hq : pc + 2 = q) (K : Go p e below P T (mkF m q l' st)) : Go p e below P T (mkF m pc Ls (.double x :: st)) := by
  subst hq; exact K.back fun _ j => XS.dstore X.here hx rfl hd rfl hl j
theorem go_dconst0 {v : UInt64} (X : Stand p l e R s m args below meth c T locs cells slots) (hx : p.tables.exec = Jvm.exec) (hd : decode c.code pc = .ok (.dconst 0, 1)) (hv : FP.dconst0 = v) (hq : pc + 1 = q) (K : Go p e below P T (mkF m q Ls (.double v :: st))) : Go p e below P T (mkF m pc Ls st) := by
  subst hq; exact K.back fun _ j => XS.dconst0 X.here hx rfl hd hv j
theorem go_dconst1 {v : UInt64} (X : Stand p l e R s m args below meth c T locs cells slots) (hx : p.tables.exec = Jvm.exec) (hd : decode c.code pc = .ok (.dconst 1, 1)) (hv : FP.dconst1 = v) (hq : pc + 1 = q) (K : Go p e below P T (mkF m q Ls (.double v :: st))) : Go p e below P T (mkF m pc Ls st) := by
  subst hq; exact K.back fun _ j => XS.dconst1 X.here hx rfl hd hv j
theorem go_i2d {x : Int32} (X : Stand p l e R s m args below meth c T locs cells slots) (hx : p.tables.exec = Jvm.exec) (hd : decode c.code pc = .ok (.i2d, 1))  (hq : pc + 1 = q) (K : Go p e below P T (mkF m q Ls (.double (FP.i2d x) :: st))) : Go p e below P T (mkF m pc Ls (.int x :: st)) := by
  subst hq; exact K.back fun _ j => XS.i2dS X.here hx rfl hd rfl rfl j
theorem go_dcmp {o : CmpOp} {x y : UInt64} (X : Stand p l e R s m args below meth c T locs cells slots) (hx : p.tables.exec = Jvm.exec) (hd : decode c.code pc = .ok (.dcmp o, 1))  (hq : pc + 1 = q) (K : Go p e below P T (mkF m q Ls (.int (cmpValue (FP.dcmp x y) o) :: st))) : Go p e below P T (mkF m pc Ls (.double y :: .double x :: st)) := by
  subst hq; exact K.back fun _ j => XS.dcmpS X.here hx rfl hd rfl rfl j
theorem go_ddiv {x y : UInt64} (X : Stand p l e R s m args below meth c T locs cells slots) (hx : p.tables.exec = Jvm.exec) (hd : decode c.code pc = .ok (.ddiv, 1)) (hn : Jvm.Free.Fl.NoNaN64 (FP.ddiv x y)) (hq : pc + 1 = q) (K : Go p e below P T (mkF m q Ls (.double (FP.ddiv x y) :: st))) : Go p e below P T (mkF m pc Ls (.double y :: .double x :: st)) := by
  subst hq; exact K.back fun _ j => XS.ddivS X.here hx rfl hd rfl hn rfl j
theorem go_iinc {k : Nat} {cst : Int} {x v : Int32} (X : Stand p l e R s m args below meth c T locs cells slots) (hx : p.tables.exec = Jvm.exec) (hd : decode c.code pc = .ok (.iinc k cst, 3)) (hl : Ls[k]? = some (.val (.int x))) (hv : x + Int32.ofInt cst = v) (hl' : storeLocals Ls k (.int v) = some l') (hq : pc + 3 = q) (K : Go p e below P T (mkF m q l' st)) : Go p e below P T (mkF m pc Ls st) := by
  subst hq; exact K.back fun _ j => XS.iinc X.here hx rfl hd hl (by rw [hv]; exact hl') j
theorem go_dup {x : Value} (X : Stand p l e R s m args below meth c T locs cells slots) (hx : p.tables.exec = Jvm.exec) (hd : decode c.code pc = .ok (.dup, 1)) (hc : x.category = 1) (hq : pc + 1 = q) (K : Go p e below P T (mkF m q Ls (x :: x :: st))) : Go p e below P T (mkF m pc Ls (x :: st)) := by
  subst hq; exact K.back fun _ j => XS.dup X.here hx rfl hd rfl hc j
theorem go_dup_x1 {x y : Value} (X : Stand p l e R s m args below meth c T locs cells slots) (hx : p.tables.exec = Jvm.exec) (hd : decode c.code pc = .ok (.dup_x1, 1)) (hc : x.category = 1) (hc' : y.category = 1) (hq : pc + 1 = q) (K : Go p e below P T (mkF m q Ls (x :: y :: x :: st))) : Go p e below P T (mkF m pc Ls (x :: y :: st)) := by
  subst hq; exact K.back fun _ j => XT.dupX1 X.here hx rfl hd rfl hc hc' j
theorem go_pop {x : Value} (X : Stand p l e R s m args below meth c T locs cells slots) (hx : p.tables.exec = Jvm.exec) (hd : decode c.code pc = .ok (.pop, 1)) (hc : x.category = 1) (hq : pc + 1 = q) (K : Go p e below P T (mkF m q Ls st)) : Go p e below P T (mkF m pc Ls (x :: st)) := by
  subst hq; exact K.back fun _ j => XT.pop X.here hx rfl hd rfl hc j
theorem go_ifN {cd : ClassFile.Cond} {o : Int} {x : Int32} (X : Stand p l e R s m args below meth c T locs cells slots) (hx : p.tables.exec = Jvm.exec) (hd : decode c.code pc = .ok (.ifCond cd o, 3)) (hc : ifCond.holds cd x = false) (hq : pc + 3 = q) (K : Go p e below P T (mkF m q Ls st)) : Go p e below P T (mkF m pc Ls (.int x :: st)) := by
  subst hq; exact K.back fun _ j => XS.ifNo X.here hx rfl hd rfl hc j
theorem go_icmpN {cd : ClassFile.Cond} {o : Int} {x y : Int32} (X : Stand p l e R s m args below meth c T locs cells slots) (hx : p.tables.exec = Jvm.exec) (hd : decode c.code pc = .ok (.if_icmp cd o, 3)) (hc : if_icmp.holds cd x y = false) (hq : pc + 3 = q) (K : Go p e below P T (mkF m q Ls st)) : Go p e below P T (mkF m pc Ls (.int y :: .int x :: st)) := by
  subst hq; exact K.back fun _ j => XS.icmpNo X.here hx rfl hd rfl hc j
theorem go_ifnullN {o : Int} {b : Addr} (X : Stand p l e R s m args below meth c T locs cells slots) (hx : p.tables.exec = Jvm.exec) (hd : decode c.code pc = .ok (.ifnull o, 3))  (hq : pc + 3 = q) (K : Go p e below P T (mkF m q Ls st)) : Go p e below P T (mkF m pc Ls (.ref b :: st)) := by
  subst hq; exact K.back fun _ j => XS.ifnullNo X.here hx rfl hd rfl j
theorem go_ifnonnullN {o : Int} (X : Stand p l e R s m args below meth c T locs cells slots) (hx : p.tables.exec = Jvm.exec) (hd : decode c.code pc = .ok (.ifnonnull o, 3))  (hq : pc + 3 = q) (K : Go p e below P T (mkF m q Ls st)) : Go p e below P T (mkF m pc Ls (.null :: st)) := by
  subst hq; exact K.back fun _ j => XT.ifnonnullNo X.here hx rfl hd rfl j
theorem go_goto  {o : Int} (X : Stand p l e R s m args below meth c T locs cells slots) (hx : p.tables.exec = Jvm.exec) (hd : decode c.code pc = .ok (.goto o, 3))  (ho : 0 ≤ (pc : Int) + o) (hq : ((pc : Int) + o).toNat = q) (K : Go p e below P T (mkF m q Ls st)) : Go p e below P T (mkF m pc Ls st) :=
  K.back fun _ j => XS.goto X.here hx rfl (pc0 := pc) rfl hd ho hq j
theorem go_ifY {cd : ClassFile.Cond} {x : Int32} {o : Int} (X : Stand p l e R s m args below meth c T locs cells slots) (hx : p.tables.exec = Jvm.exec) (hd : decode c.code pc = .ok (.ifCond cd o, 3)) (hc : ifCond.holds cd x = true) (ho : 0 ≤ (pc : Int) + o) (hq : ((pc : Int) + o).toNat = q) (K : Go p e below P T (mkF m q Ls st)) : Go p e below P T (mkF m pc Ls (.int x :: st)) :=
  K.back fun _ j => XS.ifYes X.here hx rfl (pc0 := pc) rfl hd rfl hc ho hq j
theorem go_icmpY {cd : ClassFile.Cond} {x y : Int32} {o : Int} (X : Stand p l e R s m args below meth c T locs cells slots) (hx : p.tables.exec = Jvm.exec) (hd : decode c.code pc = .ok (.if_icmp cd o, 3)) (hc : if_icmp.holds cd x y = true) (ho : 0 ≤ (pc : Int) + o) (hq : ((pc : Int) + o).toNat = q) (K : Go p e below P T (mkF m q Ls st)) : Go p e below P T (mkF m pc Ls (.int y :: .int x :: st)) :=
  K.back fun _ j => XS.icmpYes X.here hx rfl (pc0 := pc) rfl hd rfl hc ho hq j
theorem go_ifnullY  {o : Int} (X : Stand p l e R s m args below meth c T locs cells slots) (hx : p.tables.exec = Jvm.exec) (hd : decode c.code pc = .ok (.ifnull o, 3))  (ho : 0 ≤ (pc : Int) + o) (hq : ((pc : Int) + o).toNat = q) (K : Go p e below P T (mkF m q Ls st)) : Go p e below P T (mkF m pc Ls (.null :: st)) :=
  K.back fun _ j => XS.ifnullYes X.here hx rfl (pc0 := pc) rfl hd rfl ho hq j
theorem go_ifnonnullY {b : Addr} {o : Int} (X : Stand p l e R s m args below meth c T locs cells slots) (hx : p.tables.exec = Jvm.exec) (hd : decode c.code pc = .ok (.ifnonnull o, 3))  (ho : 0 ≤ (pc : Int) + o) (hq : ((pc : Int) + o).toNat = q) (K : Go p e below P T (mkF m q Ls st)) : Go p e below P T (mkF m pc Ls (.ref b :: st)) :=
  K.back fun _ j => XT.ifnonnullYes X.here hx rfl (pc0 := pc) rfl hd rfl ho hq j
theorem go_ldcI {v : Int32} {own : String} {index : Nat} (X : Stand p l e R s m args below meth c T locs cells slots) (hx : p.tables.exec = Jvm.exec) (hZ : Z.Warmed39 s.vm) (hown : s.vm.findClass own = some m.cls) (w : (Cond.constant own index v).before a0 Z = true) (hd : decode c.code pc = .ok (.ldc index, 2)) (hq : pc + 2 = q) (K : Go p e below P T (mkF m q Ls (.int v :: st))) : Go p e below P T (mkF m pc Ls st) := by
  subst hq; exact K.back fun _ k => X.ldcI hx hown (mvT hZ w) rfl hd k
theorem go_ldc2J {v : Int64} {own : String} {index : Nat} (X : Stand p l e R s m args below meth c T locs cells slots) (hx : p.tables.exec = Jvm.exec) (hZ : Z.Warmed39 s.vm) (hown : s.vm.findClass own = some m.cls) (w : (Cond.constantLong own index v).before a0 Z = true) (hd : decode c.code pc = .ok (.ldc2_w index, 3)) (hq : pc + 3 = q) (K : Go p e below P T (mkF m q Ls (.long v :: st))) : Go p e below P T (mkF m pc Ls st) := by
  subst hq; exact K.back fun _ k => X.ldc2J hx hown (mvT hZ w) rfl hd k
theorem go_ldc2D {v : UInt64} {own : String} {index : Nat} (X : Stand p l e R s m args below meth c T locs cells slots) (hx : p.tables.exec = Jvm.exec) (hZ : Z.Warmed39 s.vm) (hown : s.vm.findClass own = some m.cls) (w : (Cond.constantDouble own index v).before a0 Z = true) (hd : decode c.code pc = .ok (.ldc2_w index, 3)) (hq : pc + 3 = q) (K : Go p e below P T (mkF m q Ls (.double v :: st))) : Go p e below P T (mkF m pc Ls st) := by
  subst hq; exact K.back fun t k => X.ldc2DoubleC hx hown (mvT hZ w) (g := mkF m pc Ls st) rfl hd t k
theorem own_narb (x : Int32) : nar .byte x.toInt8.toInt32 = x.toInt8.toInt32 := by simp [nar]
theorem own_eqI {first s : State} {o : Option Outcome} {idx : List Nat} {t : Term} {k : Int32} (h : (Cond.eq t (Term.int k)).value args first o s idx = some true) : t.eval args first o idx s = some (.int k) := by
  simp only [Cond.value, Term.eval] at h
  cases ht : t.eval args first o idx s with
  | none => simp [ht] at h
  | some x => cases x <;> simp [ht] at h ⊢; exact h
theorem own_eqR {first s : State} {o : Option Outcome} {idx : List Nat} {t u : Term} {b : Addr} (h : (Cond.eq t u).value args first o s idx = some true) (hu : u.eval args first o idx s = some (.ref b)) : t.eval args first o idx s = some (.ref b) := by
  simp only [Cond.value, hu] at h
  cases ht : t.eval args first o idx s with
  | none => simp [ht] at h
  | some x => cases x <;> simp [ht] at h ⊢; exact h
theorem own_narR {t : FieldType} {v : Value} (h : v.isRef = true) (ht : t.isReference = true) : narrow t v = v := by cases v <;> simp [Value.isRef] at h <;> cases t <;> first | rfl | (simp [FieldType.isReference] at ht)
theorem own_fitR {t : FieldType} {v : Value} (h : v.isRef = true) (ht : t.isReference = true) : fits t v = true := by cases v <;> simp [Value.isRef] at h <;> cases t <;> first | rfl | (simp [FieldType.isReference] at ht)
theorem go_cast1 {own KK : String} {index : Nat} {a : Addr} (X : Stand p l e R s m args below meth c T locs cells slots) (hx : p.tables.exec = Jvm.exec) (hZ : Z.Warmed39 s.vm) (hown : s.vm.findClass own = some m.cls) (w : (Cond.classLink own index KK).before a0 Z = true) (eT : T.heap = h) (F : Ins Z h a KK true) (hd : decode c.code pc = .ok (.checkcast index, 3)) (hq : pc + 3 = q)
    (K : ∀ T', Stand p l e R s m args below meth c T' locs cells slots → T'.heap = h → Go p e below P T' (mkF m q Ls (.ref a :: st))) : Go p e below P T (mkF m pc Ls (.ref a :: st)) := by
  subst hq
  obtain ⟨T', X', e', k⟩ := castY X hx hZ hown w eT F (g := mkF m pc Ls (.ref a :: st)) rfl rfl hd
  exact (K T' X' e').back k
theorem go_acmp {cd : ACond} {x y : Value} {o : Int} {same : Bool} (X : Stand p l e R s m args below meth c T locs cells slots) (hx : p.tables.exec = Jvm.exec) (hd : decode c.code pc = .ok (.if_acmp cd o, 3)) (h1 : x.isRef = true) (h2 : y.isRef = true) (hq : decide (x = y) = same) (ho : 0 ≤ (pc : Int) + o) (hp : q = if acV cd same = true then ((pc : Int) + o).toNat else pc + 3)
    (K : Go p e below P T (mkF m q Ls st)) : Go p e below P T (mkF m pc Ls (y :: x :: st)) :=
  K.back fun _ k => RoadKit.acmp X hx rfl h1 h2 rfl hd rfl hq ho hp k
theorem go_getF {own R0 O n d host : String} {index : Nat} {a : Addr} {v : Value} (X : Stand p l e R s m args below meth c T locs cells slots) (hx : p.tables.exec = Jvm.exec) (hZ : Z.Warmed39 s.vm) (hown : s.vm.findClass own = some m.cls) (w : (Cond.fieldLink own index R0 n d).before a0 Z = true ∨ (Cond.fieldLinkNest own index R0 n d host).before a0 Z = true) (via : Via Z R0 O n d) (eT : T.heap = h) (F : Fld Z h a O n d v) (hd : decode c.code pc = .ok (.getfield index, 3)) (hq : pc + 3 = q)
    (K : ∀ T', Stand p l e R s m args below meth c T' locs cells slots → T'.heap = h → Go p e below P T' (mkF m q Ls (v :: st))) : Go p e below P T (mkF m pc Ls (.ref a :: st)) := by
  subst hq
  obtain ⟨T', X', e', k⟩ := getF X hx hZ hown w via eT F (g := mkF m pc Ls (.ref a :: st)) rfl rfl hd
  exact (K T' X' e').back k
theorem go_getS {own R0 O n d host : String} {index : Nat} {v : Value} (X : Stand p l e R s m args below meth c T locs cells slots) (hx : p.tables.exec = Jvm.exec) (hZ : Z.Warmed39 s.vm) (hown : s.vm.findClass own = some m.cls) (w : (Cond.fieldLink own index R0 n d).before a0 Z = true ∨ (Cond.fieldLinkNest own index R0 n d host).before a0 Z = true) (via : Via Z R0 O n d) (eT : T.heap = h) (F : Sta Z h O n d v) (hd : decode c.code pc = .ok (.getstatic index, 3)) (hq : pc + 3 = q)
    (K : ∀ T', Stand p l e R s m args below meth c T' locs cells slots → T'.heap = h → Go p e below P T' (mkF m q Ls (v :: st))) : Go p e below P T (mkF m pc Ls st) := by
  subst hq
  obtain ⟨T', X', e', k⟩ := getS2 X hx hZ hown w via eT F (g := mkF m pc Ls st) rfl hd
  exact (K T' X' e').back k
theorem go_putF {own R0 O n d host C : String} {index kk : Nat} {ty : FieldType} {a : Addr} {v old : Value} (X : Stand p l e R s m args below meth c T locs cells slots) (hx : p.tables.exec = Jvm.exec) (hZ : Z.Warmed39 s.vm) (hown : s.vm.findClass own = some m.cls) (w : (Cond.fieldLink own index R0 n d).before a0 Z = true ∨ (Cond.fieldLinkNest own index R0 n d host).before a0 Z = true) (via : Via Z R0 O n d)
    (eT : T.heap = h) (F : Fld Z h a O n d old) (E : Exa Z h a C) (L : (Cond.lays C O n d).before a0 Z = true ∨ ((Cond.laysFinal C O n d).before a0 Z = true ∧ own = O ∧ meth.name = "<init>")) (wi : (Cond.instantiable C kk).before a0 Z = true)
    (hty : parseFieldDescriptor d = some ty) (hn : narrow ty v = v) (hf : fits ty v = true) (hd : decode c.code pc = .ok (.putfield index, 3)) (hq : pc + 3 = q)
    (K : ∀ T' h', Stand p l e R s m args below meth c T' (locs ++ [⟨a, RoadKit.slotOf Z O n d⟩]) cells slots → T'.heap = h' → Wr h h' a (RoadKit.slotOf Z O n d) v → Go p e below P T' (mkF m q Ls st)) : Go p e below P T (mkF m pc Ls (v :: .ref a :: st)) := by
  subst hq
  obtain ⟨T', h', X', e', W, k⟩ := putF X hx hZ hown w via eT F E L wi hty hn hf (g := mkF m pc Ls (v :: .ref a :: st)) rfl rfl hd
  exact (K T' h' X' e' W).back k
theorem go_new {own C : String} {index n : Nat} (X : Stand p l e R s m args below meth c T locs cells slots) (hx : p.tables.exec = Jvm.exec) (hZ : Z.Warmed39 s.vm) (hown : s.vm.findClass own = some m.cls) (w : (Cond.classLink own index C).before a0 Z = true) (wi : (Cond.instantiable C n).before a0 Z = true) (wz : (Cond.initialized C).before a0 Z = true) (eT : T.heap = h) (hd : decode c.code pc = .ok (.new index, 3)) (hc : cells + 1 ≤ R.cells) (hl : slots + n ≤ R.slots) (hq : pc + 3 = q)
    (K : ∀ T' h' a, a = h.size → Stand p l e R s m args below meth c T' locs (cells + 1) (slots + n) → T'.heap = h' → Ext h h' → Exa Z h' a C → (∀ {O nm d : String} {ty : FieldType}, Laid Z a0 C O nm d → parseFieldDescriptor d = some ty → Fld Z h' a O nm d (defaultValue ty)) → Go p e below P T' (mkF m q Ls (.ref a :: st))) : Go p e below P T (mkF m pc Ls st) := by
  subst hq
  obtain ⟨T', h', X', e', E, A, D, -, k⟩ := newO X hx hZ hown w wi wz eT (g := mkF m pc Ls st) rfl hd hc hl
  exact (K T' h' _ rfl X' e' E A D).back k
theorem go_initO {own : String} {idx W : Nat} {a : Addr} (X : Stand p l e R s m args below meth c T locs cells slots) (hx : p.tables.exec = Jvm.exec) (hZ : Z.Warmed39 s.vm) (hown : s.vm.findClass own = some m.cls) (w1 : (Cond.methodLink own idx Lib.objectInit).before a0 Z = true) (w2 : (Cond.instanceMethod Lib.objectInit).before a0 Z = true)
    (w3 : (Cond.code Lib.objectInit ⟨#[0xb1]⟩ 1 none).before a0 Z = true) (eT : T.heap = h) (hml : Ls.size = c.maxLocals) (hd : decode c.code pc = .ok (.invokespecial idx, 3)) (hf : 1 ≤ R.frames) (hW : (st.map fun v => v.category).sum ≤ W) (hl : W + 12 ≤ R.locals) (hq : pc + 3 = q)
    (K : ∀ T', Stand p l e R s m args below meth c T' locs cells slots → T'.heap = h → Go p e below P T' (mkF m q Ls st)) : Go p e below P T (mkF m pc Ls (.ref a :: st)) := by
  subst hq
  obtain ⟨T', X', e', k⟩ := initO X hx hZ hown w1 w2 w3 eT (g := mkF m pc Ls (.ref a :: st)) rfl hml rfl hd hf (W := W) (by show 2 * 0 + _ ≤ _; omega) hl
  exact (K T' X' e').back k
theorem go_alen {a : Addr} {k : ClassId} {ty : FieldType} {n : Int32} {vs : List Value} {dv : Value} (X : Stand p l e R s m args below meth c T locs cells slots) (hx : p.tables.exec = Jvm.exec) (hZ : Z.Warmed39 s.vm) (eT : T.heap = h) (F : Arv Z h a k ty n vs dv) (hd : decode c.code pc = .ok (.arraylength, 1)) (hq : pc + 1 = q) (K : Go p e below P T (mkF m q Ls (.int n :: st))) : Go p e below P T (mkF m pc Ls (.ref a :: st)) := by
  subst hq
  obtain ⟨cl, A, e1, S, nz, H, G⟩ := F
  exact K.back fun t j => X.arraylength hx (by rw [eT]; exact A.1) (State.isArrayOf_alike hZ.alike A.2.1) (g := mkF m pc Ls (.ref a :: st)) rfl rfl hd t (by rw [len_of S nz]; exact j)
theorem go_newP {aty : ArrayType} {ty : FieldType} {n : Int32} {cap : Nat} {vs : List Value} {dv : Value} (X : Stand p l e R s m args below meth c T locs cells slots) (hx : p.tables.exec = Jvm.exec) (hZ : Z.Warmed39 s.vm) (hty : newarray.typeOf aty = ty) (w : (Cond.arrayClass ty).before a0 Z = true) (eT : T.heap = h) (hd : decode c.code pc = .ok (.newarray aty, 2)) (hn : ¬ n < 0) (hcap : n.toNatClampNeg ≤ cap) (hb : cap * 8 ≤ 536870912) (hc : cells + 1 ≤ R.cells) (hl : slots + cap ≤ R.slots) (hdv : defaultValue ty = dv) (hvs : List.replicate cap dv = vs) (hq : pc + 2 = q)
    (K : ∀ T' h' a k, a = h.size → Stand p l e R s m args below meth c T' locs (cells + 1) (slots + cap) → T'.heap = h' → Ext h h' → Arv Z h' a k ty n vs dv → Go p e below P T' (mkF m q Ls (.ref a :: st))) : Go p e below P T (mkF m pc Ls (.int n :: st)) := by
  subst hq hty hdv hvs
  obtain ⟨T', h', cA, X', e', E, A, k⟩ := newP X hx hZ w eT (g := mkF m pc Ls (.int n :: st)) rfl hd rfl hn hcap hb hc hl
  exact (K T' h' _ cA rfl X' e' E ((Arv.new A hn).pad (pad_rep [] _ cap))).back k
theorem go_iaload {a : Addr} {k : ClassId} {n j : Int32} {vs : List Value} {dv v : Value} (X : Stand p l e R s m args below meth c T locs cells slots) (hx : p.tables.exec = Jvm.exec) (hZ : Z.Warmed39 s.vm) (eT : T.heap = h) (F : Arv Z h a k .int n vs dv) (hj : ¬ j < 0 ∧ j < n) (hv : vs.getD j.toNatClampNeg dv = v) (hd : decode c.code pc = .ok (.iaload, 1)) (hq : pc + 1 = q) (K : Go p e below P T (mkF m q Ls (v :: st))) : Go p e below P T (mkF m pc Ls (.int j :: .ref a :: st)) := by
  subst hq
  obtain ⟨cl, A, e1, S, nz, H, G⟩ := F
  exact K.back fun t i => X.iaload hx (by rw [eT]; exact A.1) (State.isArrayOf_alike hZ.alike A.2.1) A.2.2 (inb_of S hj) (H.at (inb_of S hj) hv) (g := mkF m pc Ls (.int j :: .ref a :: st)) rfl rfl hd t i
theorem go_caload {a : Addr} {k : ClassId} {n j : Int32} {vs : List Value} {dv v : Value} (X : Stand p l e R s m args below meth c T locs cells slots) (hx : p.tables.exec = Jvm.exec) (hZ : Z.Warmed39 s.vm) (eT : T.heap = h) (F : Arv Z h a k .char n vs dv) (hj : ¬ j < 0 ∧ j < n) (hv : vs.getD j.toNatClampNeg dv = v) (hd : decode c.code pc = .ok (.caload, 1)) (hq : pc + 1 = q) (K : Go p e below P T (mkF m q Ls (v :: st))) : Go p e below P T (mkF m pc Ls (.int j :: .ref a :: st)) := by
  subst hq
  obtain ⟨cl, A, e1, S, nz, H, G⟩ := F
  exact K.back fun t i => X.caload hx (by rw [eT]; exact A.1) (State.isArrayOf_alike hZ.alike A.2.1) A.2.2 (inb_of S hj) (H.at (inb_of S hj) hv) (g := mkF m pc Ls (.int j :: .ref a :: st)) rfl rfl hd t i
theorem go_baload {a : Addr} {k : ClassId} {n j : Int32} {vs : List Value} {dv v : Value} (X : Stand p l e R s m args below meth c T locs cells slots) (hx : p.tables.exec = Jvm.exec) (hZ : Z.Warmed39 s.vm) (eT : T.heap = h) (F : Arv Z h a k .byte n vs dv) (hj : ¬ j < 0 ∧ j < n) (hv : vs.getD j.toNatClampNeg dv = v) (hd : decode c.code pc = .ok (.baload, 1)) (hq : pc + 1 = q) (K : Go p e below P T (mkF m q Ls (v :: st))) : Go p e below P T (mkF m pc Ls (.int j :: .ref a :: st)) := by
  subst hq
  obtain ⟨cl, A, e1, S, nz, H, G⟩ := F
  exact K.back fun t i => X.baloadBytes hx (by rw [eT]; exact A.1) (State.isArrayOf_alike hZ.alike A.2.1) A.2.2 (inb_of S hj) (H.at (inb_of S hj) hv) (g := mkF m pc Ls (.int j :: .ref a :: st)) rfl rfl hd t i
theorem go_daload {a : Addr} {k : ClassId} {n j : Int32} {vs : List Value} {dv v : Value} (X : Stand p l e R s m args below meth c T locs cells slots) (hx : p.tables.exec = Jvm.exec) (hZ : Z.Warmed39 s.vm) (eT : T.heap = h) (F : Arv Z h a k .double n vs dv) (hj : ¬ j < 0 ∧ j < n) (hv : vs.getD j.toNatClampNeg dv = v) (hd : decode c.code pc = .ok (.daload, 1)) (hq : pc + 1 = q) (K : Go p e below P T (mkF m q Ls (v :: st))) : Go p e below P T (mkF m pc Ls (.int j :: .ref a :: st)) := by
  subst hq
  obtain ⟨cl, A, e1, S, nz, H, G⟩ := F
  exact K.back fun t i => X.daload hx (by rw [eT]; exact A.1) (State.isArrayOf_alike hZ.alike A.2.1) A.2.2 (inb_of S hj) (H.at (inb_of S hj) hv) (g := mkF m pc Ls (.int j :: .ref a :: st)) rfl rfl hd t i
theorem go_aaload {a : Addr} {k : ClassId} {ty : FieldType} {n j : Int32} {vs : List Value} {dv v : Value} (X : Stand p l e R s m args below meth c T locs cells slots) (hx : p.tables.exec = Jvm.exec) (hZ : Z.Warmed39 s.vm) (eT : T.heap = h) (F : Arv Z h a k ty n vs dv) (hty : ty.isReference = true) (hj : ¬ j < 0 ∧ j < n) (hv : vs.getD j.toNatClampNeg dv = v) (hd : decode c.code pc = .ok (.aaload, 1)) (hq : pc + 1 = q) (K : Go p e below P T (mkF m q Ls (v :: st))) : Go p e below P T (mkF m pc Ls (.int j :: .ref a :: st)) := by
  subst hq
  obtain ⟨cl, A, e1, S, nz, H, G⟩ := F
  exact K.back fun t i => X.aaload hx (by rw [eT]; exact A.1) (State.isArrayOf_alike hZ.alike A.2.1) hty A.2.2 (inb_of S hj) (H.at (inb_of S hj) hv) (g := mkF m pc Ls (.int j :: .ref a :: st)) rfl rfl hd t i
theorem go_castore {a : Addr} {k : ClassId} {n j x x' : Int32} {i : Nat} {vs vs' : List Value} {dv : Value} (X : Stand p l e R s m args below meth c T locs cells slots) (hx : p.tables.exec = Jvm.exec) (hZ : Z.Warmed39 s.vm) (eT : T.heap = h) (F : Arv Z h a k .char n vs dv) (hj : ¬ j < 0 ∧ j < n) (hi : j.toNatClampNeg = i) (hl : i < vs.length) (hn : nar .char x = x') (hvs : vs.set i (.int x') = vs') (hd : decode c.code pc = .ok (.castore, 1)) (hq : pc + 1 = q)
    (K : ∀ T' h', Stand p l e R s m args below meth c T' (locs ++ [⟨a, j.toNatClampNeg⟩]) cells slots → T'.heap = h' → Wr h h' a j.toNatClampNeg (.int x') → Arv Z h' a k .char n vs' dv → Go p e below P T' (mkF m q Ls st)) : Go p e below P T (mkF m pc Ls (.int x :: .int j :: .ref a :: st)) := by
  subst hq hn hvs
  obtain ⟨cl, A, e1, S, nz, H, G⟩ := F
  obtain ⟨T', h', X', e', W, k⟩ := stC X hx hZ eT A (inb_of S hj) (g := mkF m pc Ls (.int x :: .int j :: .ref a :: st)) rfl rfl hd
  exact (K T' h' X' e' W (Arv.set A e1 S nz H G (fits_nar_char _) W i hi hl)).back k
theorem go_bastore {a : Addr} {k : ClassId} {n j x x' : Int32} {i : Nat} {vs vs' : List Value} {dv : Value} (X : Stand p l e R s m args below meth c T locs cells slots) (hx : p.tables.exec = Jvm.exec) (hZ : Z.Warmed39 s.vm) (eT : T.heap = h) (F : Arv Z h a k .byte n vs dv) (hj : ¬ j < 0 ∧ j < n) (hi : j.toNatClampNeg = i) (hl : i < vs.length) (hn : nar .byte x = x') (hvs : vs.set i (.int x') = vs') (hd : decode c.code pc = .ok (.bastore, 1)) (hq : pc + 1 = q)
    (K : ∀ T' h', Stand p l e R s m args below meth c T' (locs ++ [⟨a, j.toNatClampNeg⟩]) cells slots → T'.heap = h' → Wr h h' a j.toNatClampNeg (.int x') → Arv Z h' a k .byte n vs' dv → Go p e below P T' (mkF m q Ls st)) : Go p e below P T (mkF m pc Ls (.int x :: .int j :: .ref a :: st)) := by
  subst hq hn hvs
  obtain ⟨cl, A, e1, S, nz, H, G⟩ := F
  obtain ⟨T', h', X', e', W, k⟩ := stB X hx hZ eT A (inb_of S hj) (g := mkF m pc Ls (.int x :: .int j :: .ref a :: st)) rfl rfl hd
  exact (K T' h' X' e' W (Arv.set A e1 S nz H G (fits_nar_byte _) W i hi hl)).back k
theorem go_dastore {a : Addr} {k : ClassId} {n j : Int32} {x : UInt64} {i : Nat} {vs vs' : List Value} {dv : Value} (X : Stand p l e R s m args below meth c T locs cells slots) (hx : p.tables.exec = Jvm.exec) (hZ : Z.Warmed39 s.vm) (eT : T.heap = h) (F : Arv Z h a k .double n vs dv) (hj : ¬ j < 0 ∧ j < n) (hi : j.toNatClampNeg = i) (hl : i < vs.length) (hvs : vs.set i (.double x) = vs') (hd : decode c.code pc = .ok (.dastore, 1)) (hq : pc + 1 = q)
    (K : ∀ T' h', Stand p l e R s m args below meth c T' (locs ++ [⟨a, j.toNatClampNeg⟩]) cells slots → T'.heap = h' → Wr h h' a j.toNatClampNeg (.double x) → Arv Z h' a k .double n vs' dv → Go p e below P T' (mkF m q Ls st)) : Go p e below P T (mkF m pc Ls (.double x :: .int j :: .ref a :: st)) := by
  subst hq hvs
  obtain ⟨cl, A, e1, S, nz, H, G⟩ := F
  obtain ⟨T', h', X', e', W, k⟩ := stD X hx hZ eT A (inb_of S hj) (g := mkF m pc Ls (.double x :: .int j :: .ref a :: st)) rfl rfl hd
  exact (K T' h' X' e' W (Arv.set A e1 S nz H G rfl W i hi hl)).back k
variable {y z : MethodName} {bytes : ByteArray} {maxL : Nat} {ret : Option FieldType} {rm : Room} {as' : Array Value} {Qc : Option Value → Heap → List Loc → Prop} {own CL : String} {index W : Nat}
theorem Con.pays {len : Nat} (M : Con l Z y bytes maxL ret rm as' h Qc) (hZ : Z.Warmed39 s.vm) (wc : (Cond.code y bytes maxL ret).before a0 Z = true) (wz : (Cond.initialized y.cls).before a0 Z = true) (hf : rm.frames + 1 ≤ R.frames) (hl : W + (maxL + 11) + rm.locals ≤ R.locals) :
    Back l R p e below s args y len W (fun A a => a = as' ∧ A.U.heap = h ∧ A.cells + rm.cells ≤ R.cells ∧ A.slots + rm.slots ≤ R.slots)
      (fun A _ v B => ∃ L, Qc v B.U.heap L ∧ B.locs = A.locs ++ L ∧ B.cells = A.cells + rm.cells ∧ B.slots = A.slots + rm.slots) := backOf (M []) hZ wc wz hf hl
theorem go_static (X : Stand p l e R s m args below meth c T locs cells slots) (hx : p.tables.exec = Jvm.exec) (hZ : Z.Warmed39 s.vm) (hown : s.vm.findClass own = some m.cls) (w1 : (Cond.methodLink own index y).before a0 Z = true) (w2 : (Cond.static y).before a0 Z = true) (wz : (Cond.initialized y.cls).before a0 Z = true) (wc : (Cond.code y bytes maxL ret).before a0 Z = true) (hy : y.cls ≠ "java/lang/invoke/MethodHandle" ∧ y.cls ≠ "java/lang/invoke/VarHandle")
    (eT : T.heap = h) (M : Con l Z y bytes maxL ret rm as' h Qc) (has : argsL.toArray = as') (hlen : ∀ sig, parseMethodDescriptor y.desc = some sig → argsL.length = sig.parameters.length) (hst : stk = argsL.reverse ++ rest) (hml : Ls.size = c.maxLocals) (hW : (rest.map fun v => v.category).sum ≤ W) (hd : decode c.code pc = .ok (.invokestatic index, 3)) (hf : rm.frames + 1 ≤ R.frames) (hl : W + (maxL + 11) + rm.locals ≤ R.locals) (hc : cells + rm.cells ≤ R.cells) (hs : slots + rm.slots ≤ R.slots) (hq : pc + 3 = q)
    (K : ∀ T' h' v L, Stand p l e R s m args below meth c T' (locs ++ L) (cells + rm.cells) (slots + rm.slots) → T'.heap = h' → Qc v h' L → Go p e below P T' (mkF m q Ls (v.toList ++ rest))) : Go p e below P T (mkF m pc Ls stk) := by
  subst hq
  obtain ⟨v, _, ⟨T', L', k', n'⟩, -, X', ⟨L, hQ, e1, e2, e3⟩, k⟩ := Jvm.LawKit.callS X hx (y := y) hown (mvT hZ w1) (mvT hZ w2) (mvT hZ wz) (mvT hZ wc) hy (M.pays (W := W) hZ wc wz hf hl) (g := mkF m pc Ls stk) rfl hml (argsL := argsL) (rest := rest) hlen hst (by show 2 * 0 + _ ≤ _; omega) hd (fun _ _ => ⟨has, eT, hc, hs⟩)
  dsimp only [Pt.U, Pt.locs, Pt.cells, Pt.slots] at X' e1 e2 e3 k hQ
  subst e1 e2 e3
  exact (K T' _ v L X' rfl hQ).back k
theorem go_special {a : Addr} (X : Stand p l e R s m args below meth c T locs cells slots) (hx : p.tables.exec = Jvm.exec) (hZ : Z.Warmed39 s.vm) (hown : s.vm.findClass own = some m.cls) (hy1 : y.name = "<init>") (w1 : (Cond.methodLink own index y).before a0 Z = true) (w2 : (Cond.instanceMethod y).before a0 Z = true) (wz : (Cond.initialized y.cls).before a0 Z = true) (wc : (Cond.code y bytes maxL none).before a0 Z = true) (hy : y.cls ≠ "java/lang/invoke/MethodHandle" ∧ y.cls ≠ "java/lang/invoke/VarHandle")
    (eT : T.heap = h) (M : Con l Z y bytes maxL none rm as' h Qc) (has : (.ref a :: argsL).toArray = as') (hlen : ∀ sig, parseMethodDescriptor y.desc = some sig → argsL.length = sig.parameters.length) (hst : stk = argsL.reverse ++ .ref a :: rest) (hml : Ls.size = c.maxLocals) (hW : (rest.map fun v => v.category).sum ≤ W) (hd : decode c.code pc = .ok (.invokespecial index, 3)) (hf : rm.frames + 1 ≤ R.frames) (hl : W + (maxL + 11) + rm.locals ≤ R.locals) (hc : cells + rm.cells ≤ R.cells) (hs : slots + rm.slots ≤ R.slots) (hq : pc + 3 = q)
    (K : ∀ T' h' v L, Stand p l e R s m args below meth c T' (locs ++ L) (cells + rm.cells) (slots + rm.slots) → T'.heap = h' → Qc v h' L → Go p e below P T' (mkF m q Ls (v.toList ++ rest))) : Go p e below P T (mkF m pc Ls stk) := by
  subst hq
  obtain ⟨v, _, ⟨T', L', k', n'⟩, -, X', ⟨L, hQ, e1, e2, e3⟩, k⟩ := X.specialBack hx (y := y) hy1 hown (mvT hZ w1) (mvT hZ w2) (mvT hZ wc) hy (M.pays (W := W) hZ wc wz hf hl) (g := mkF m pc Ls stk) rfl hml (Steps.refl _) (a := a) (argsL := argsL) (rest := rest) hlen hst (by show 2 * 0 + _ ≤ _; omega) hd (fun _ _ => ⟨has, eT, hc, hs⟩)
  dsimp only [Pt.U, Pt.locs, Pt.cells, Pt.slots] at X' e1 e2 e3 k hQ
  subst e1 e2 e3
  exact (K T' _ v L X' rfl hQ).back fun _ j => k.trans j
theorem go_virtual {a : Addr} (X : Stand p l e R s m args below meth c T locs cells slots) (hx : p.tables.exec = Jvm.exec) (hZ : Z.Warmed39 s.vm) (hown : s.vm.findClass own = some m.cls) (w1 : (Cond.methodLink own index y).before a0 Z = true) (w2 : (Cond.declares y).before a0 Z = true) (hnf : NotFace s y) (w3 : (Cond.selects CL y z).before a0 Z = true) (w4 : (Cond.instanceMethod z).before a0 Z = true) (wz : (Cond.initialized z.cls).before a0 Z = true) (wc : (Cond.code z bytes maxL ret).before a0 Z = true) (hy : y.cls ≠ "java/lang/invoke/MethodHandle" ∧ y.cls ≠ "java/lang/invoke/VarHandle")
    (eT : T.heap = h) (E : Exa Z h a CL) (M : Con l Z z bytes maxL ret rm as' h Qc) (has : (.ref a :: argsL).toArray = as') (hlen : ∀ sig, parseMethodDescriptor y.desc = some sig → argsL.length = sig.parameters.length) (hst : stk = argsL.reverse ++ .ref a :: rest) (hml : Ls.size = c.maxLocals) (hW : (rest.map fun v => v.category).sum ≤ W) (hd : decode c.code pc = .ok (.invokevirtual index, 3)) (hf : rm.frames + 1 ≤ R.frames) (hl : W + (maxL + 11) + rm.locals ≤ R.locals) (hc : cells + rm.cells ≤ R.cells) (hs : slots + rm.slots ≤ R.slots) (hq : pc + 3 = q)
    (K : ∀ T' h' v L, Stand p l e R s m args below meth c T' (locs ++ L) (cells + rm.cells) (slots + rm.slots) → T'.heap = h' → Qc v h' L → Go p e below P T' (mkF m q Ls (v.toList ++ rest))) : Go p e below P T (mkF m pc Ls stk) := by
  subst hq
  obtain ⟨cq, kq, qa, qb, qc⟩ := isOf hZ eT E
  obtain ⟨v, _, ⟨T', L', k', n'⟩, -, X', ⟨L, hQ, e1, e2, e3⟩, k⟩ := X.virtualBack hx (y := y) (z := z) hown (mvT hZ w1) (mvT hZ w2) hnf (mvT hZ w3) (mvT hZ w4) hy (M.pays (W := W) hZ wc wz hf hl) qa qc (g := mkF m pc Ls stk) rfl hml (Steps.refl _) (argsL := argsL) (rest := rest) hlen hst (by show 2 * 0 + _ ≤ _; omega) hd (fun _ _ => ⟨has, eT, hc, hs⟩)
  dsimp only [Pt.U, Pt.locs, Pt.cells, Pt.slots] at X' e1 e2 e3 k hQ
  subst e1 e2 e3
  exact (K T' _ v L X' rfl hQ).back fun _ j => k.trans j
theorem go_iface {a : Addr} {count : Nat} (X : Stand p l e R s m args below meth c T locs cells slots) (hx : p.tables.exec = Jvm.exec) (hZ : Z.Warmed39 s.vm) (hown : s.vm.findClass own = some m.cls) (w1 : (Cond.methodLink own index y).before a0 Z = true) (w2 : (Cond.declares y).before a0 Z = true) (w5 : (Cond.interfaceMethod y.cls y.cls y.name y.desc).before args s = true) (w3 : (Cond.selects CL y z).before a0 Z = true) (w4 : (Cond.instanceMethod z).before a0 Z = true) (w6 : (Cond.publicMethod z).before a0 Z = true) (w7 : (Cond.unhidden CL y.name y.desc).before a0 Z = true) (w8 : (Cond.castable CL y.cls).before a0 Z = true) (wz : (Cond.initialized z.cls).before a0 Z = true) (wc : (Cond.code z bytes maxL ret).before a0 Z = true) (hy : y.cls ≠ "java/lang/invoke/MethodHandle" ∧ y.cls ≠ "java/lang/invoke/VarHandle")
    (eT : T.heap = h) (E : Exa Z h a CL) (M : Con l Z z bytes maxL ret rm as' h Qc) (has : (.ref a :: argsL).toArray = as') (hlen : ∀ sig, parseMethodDescriptor y.desc = some sig → argsL.length = sig.parameters.length) (hst : stk = argsL.reverse ++ .ref a :: rest) (hml : Ls.size = c.maxLocals) (hW : (rest.map fun v => v.category).sum ≤ W) (hd : decode c.code pc = .ok (.invokeinterface index count, 5)) (hf : rm.frames + 1 ≤ R.frames) (hl : W + (maxL + 11) + rm.locals ≤ R.locals) (hc : cells + rm.cells ≤ R.cells) (hs : slots + rm.slots ≤ R.slots) (hq : pc + 5 = q)
    (K : ∀ T' h' v L, Stand p l e R s m args below meth c T' (locs ++ L) (cells + rm.cells) (slots + rm.slots) → T'.heap = h' → Qc v h' L → Go p e below P T' (mkF m q Ls (v.toList ++ rest))) : Go p e below P T (mkF m pc Ls stk) := by
  subst hq
  obtain ⟨cq, kq, qa, qb, qc⟩ := isOf hZ eT E
  obtain ⟨v, _, ⟨T', L', k', n'⟩, -, X', ⟨L, hQ, e1, e2, e3⟩, k⟩ := X.interfaceBack hx (xi := y) (y := z) hown (mvT hZ w1) (mvT hZ w2) w5 (mvT hZ w3) (mvT hZ w4) (mvT hZ w6) (mvT hZ w7) (mvT hZ w8) hy (M.pays (W := W) hZ wc wz hf hl) qa qb qc (g := mkF m pc Ls stk) rfl hml (Steps.refl _) (argsL := argsL) (rest := rest) hlen hst (by show 2 * 0 + _ ≤ _; omega) hd (fun _ _ => ⟨has, eT, hc, hs⟩)
  dsimp only [Pt.U, Pt.locs, Pt.cells, Pt.slots] at X' e1 e2 e3 k hQ
  subst e1 e2 e3
  exact (K T' _ v L X' rfl hQ).back fun _ j => k.trans j
end OwnKit
section OwnKitS
variable {p : Program} {l : Launch} {e : Env} {R : Room} {s : State} {m : MethodId} {args : Array Value} {below : List Frame} {meth : Method} {c : Code} {T T' : State} {locs : List Loc} {cells slots : Nat} {Z : State} {a0 : Array Value} {h h' h0 : Heap} {CC SS : Nat} {Q : Option Value → Heap → List Loc → Prop} {P : State → Prop} {g g' : JFrame} {pc q : Nat} {Ls l' : Array Slot} {st stk rest argsL : List Value} {EL : List (String × Nat)} {sf : List Addr} {vm0 : Vm} {k0 : Nat}
/-- it ended by a return, what it leaves is Q; literals may have been interned meanwhile -/
def PS (Z : State) (EL : List (String × Nat)) (below : List Frame) (s : State) (CC SS : Nat) (Q : Option Value → Heap → List Loc → Prop) (s₂ : State) : Prop :=
  s₂.status = .running ∧ ∃ v L, Ended s₂ below (.returned v) ∧ Q v s₂.heap L ∧ CHr Z EL s.vm s.heap s₂.vm s₂.heap ∧ ReturnedEndW s (.returned v) s₂ L CC SS
def ConS (l : Launch) (Z : State) (EL : List (String × Nat)) (sf : List Addr) (y : MethodName) (bytes : ByteArray) (maxL : Nat) (ret : Option FieldType) (rm : Room) (as' : Array Value) (h0 : Heap) (Q : Option Value → Heap → List Loc → Prop) : Prop :=
  ∀ ws : List Jvm.Cond, MetFree l y (head1 (Jvm.Cond.code y bytes maxL ret :: ws) rm) (fun a U => a = as' ∧ Z.Warmed39 U.vm ∧ U.heap = h0 ∧ CHv Z EL U.vm h0 ∧ ∀ x ∈ sf, Safe Z EL U.vm h0 x) (fun _ _ _ _ _ => True) (fun _ U o U' => ∃ v L, o = .returned v ∧ Q v U'.heap L ∧ CHr Z EL U.vm U.heap U'.vm U'.heap ∧ ReturnedEndW U o U' L rm.cells rm.slots)
theorem ConS.of {y : MethodName} {bytes : ByteArray} {maxL : Nat} {ret : Option FieldType} {rm : Room} {as' : Array Value} (hpl : plainFor y = true)
    (body : ∀ p e s m below meth c s₁, p.tables.exec = Jvm.exec → c.code = bytes → c.maxLocals = maxL → Z.Warmed39 s.vm → s.vm.findClass y.cls = some m.cls → meth.name = y.name → meth.sig.returnType = ret → meth.locks = false → Stand p l e rm (s.setVm s.vm) m as' below meth c s₁ [] 0 0 → s₁.heap = h0 → s.Since s.vm 0 → CHr Z EL s.vm h0 s.vm h0 → (∀ x ∈ sf, Safe Z EL s.vm h0 x) → s.heap = h0 → Go p e below (PS Z EL below s rm.cells rm.slots Q) s₁ (entryFrame m as' maxL)) : ConS l Z EL sf y bytes maxL ret rm as' h0 Q := by
  intro ws
  refine MetFree.of_bodySF hpl hisR ?_
  intro p e s m args below meth c s₁ Bd hml0 hP hK
  obtain ⟨rfl, hZ, hh, hC, hsf⟩ := hP
  obtain ⟨s₂, h1, h2, v, L, h3, h4, h5, h6⟩ := body p e s m below meth c s₁ Bd.exec Bd.bytes hml0 hZ (findClass_of_methodNamed Bd.named) (name_of_methodNamed Bd.named Bd.method).1 Bd.returns Bd.notSynchronized (Stand.of_body Bd) (by rw [← hh, Bd.state]; rfl) ((State.WarmedH.refl s).since 0) (CHr.refl hC) hsf hh
  exact ⟨s₂, _, h1, h2, h3, v, L, rfl, h4, h5, h6⟩
theorem go_leaveS {v : Option Value} (X : Stand p l e R (s.setVm vm0) m args below meth c T locs cells slots) (hS : s.Since vm0 k0) (hk : k0 ≤ h.size) (hZ : Z.Warmed39 vm0) (hEL : EW Z a0 EL) (H : CHr Z EL s.vm h0 vm0 h) (hh : s.heap = h0) (hv : meth.sig.returnType = none → v = none) (hlk : meth.locks = false) (eT : T.heap = h) (hc : cells ≤ CC) (hs : slots ≤ SS) (hQ : Q v h locs)
    (run : ∀ fs, (∀ (f : JFrame) (acts : List Action), f.method = m → f.locked = none → f.entered = [] → (doReturn e (T.setTop f) acts v).1 = T.setFrames fs) → Steps p.tables e below (T.setTop g) (T.setFrames fs)) : Go p e below (PS Z EL below s CC SS Q) T g := by
  subst eT
  obtain ⟨fs, hr, hrun, hended, hW⟩ := X.leaveW hS hk (v := v) hv hlk
  refine ⟨_, run fs hr, hrun, v, locs, hended, hQ, ?_, ?_⟩
  · have A := CHv.at X hZ hEL H.1
    rw [hh]; exact H.trans A
  · exact ⟨hW.1, hW.2.1, hW.2.2.1, hW.2.2.2.mono hc hs⟩
theorem go_ret0S (X : Stand p l e R (s.setVm vm0) m args below meth c T locs cells slots) (hx : p.tables.exec = Jvm.exec) (hS : s.Since vm0 k0) (hk : k0 ≤ h.size) (hZ : Z.Warmed39 vm0) (hEL : EW Z a0 EL) (H : CHr Z EL s.vm h0 vm0 h) (hh : s.heap = h0) (hret : meth.sig.returnType = none) (hlk : meth.locks = false) (eT : T.heap = h) (hd : decode c.code pc = .ok (.return_, 1)) (hc : cells ≤ CC) (hs : slots ≤ SS) (hQ : Q none h locs) : Go p e below (PS Z EL below s CC SS Q) T (mkF m pc Ls []) :=
  go_leaveS X hS hk hZ hEL H hh (fun _ => rfl) hlk eT hc hs hQ fun _ hr => X.returnOut hx hret hd hr
theorem go_retAS {t : FieldType} {w : Value} (X : Stand p l e R (s.setVm vm0) m args below meth c T locs cells slots) (hx : p.tables.exec = Jvm.exec) (hS : s.Since vm0 k0) (hk : k0 ≤ h.size) (hZ : Z.Warmed39 vm0) (hEL : EW Z a0 EL) (H : CHr Z EL s.vm h0 vm0 h) (hh : s.heap = h0) (hret : meth.sig.returnType = some t) (hlk : meth.locks = false) (eT : T.heap = h) (hd : decode c.code pc = .ok (.areturn, 1)) (ht : t.isReference = true) (hw : w.isRef = true) (hn : narrow t w = w) (hc : cells ≤ CC) (hs : slots ≤ SS) (hQ : Q (some w) h locs) : Go p e below (PS Z EL below s CC SS Q) T (mkF m pc Ls (w :: st)) :=
  go_leaveS X hS hk hZ hEL H hh (fun z => by rw [hret] at z; cases z) hlk eT hc hs hQ fun _ hr => retOut X hx hret hn (Or.inr (Or.inr (Or.inr (Or.inr ⟨rfl, ht, hw⟩)))) hd hr
theorem go_retIS {t : FieldType} {z : Int32} (X : Stand p l e R (s.setVm vm0) m args below meth c T locs cells slots) (hx : p.tables.exec = Jvm.exec) (hS : s.Since vm0 k0) (hk : k0 ≤ h.size) (hZ : Z.Warmed39 vm0) (hEL : EW Z a0 EL) (H : CHr Z EL s.vm h0 vm0 h) (hh : s.heap = h0) (hret : meth.sig.returnType = some t) (hlk : meth.locks = false) (eT : T.heap = h) (hd : decode c.code pc = .ok (.ireturn, 1)) (ht : t = .int ∨ t = .boolean ∨ t = .byte ∨ t = .char ∨ t = .short) (hn : narrow t (.int z) = .int z) (hc : cells ≤ CC) (hs : slots ≤ SS) (hQ : Q (some (.int z)) h locs) : Go p e below (PS Z EL below s CC SS Q) T (mkF m pc Ls (.int z :: st)) :=
  go_leaveS X hS hk hZ hEL H hh (fun z => by rw [hret] at z; cases z) hlk eT hc hs hQ fun _ hr => retOut X hx hret hn (Or.inl ⟨rfl, ht, z, rfl⟩) hd hr
/-- ldc of a literal of EL -/
theorem go_ldcS {own text : String} {index n : Nat} {vs : List Value} {z : Int32} (X : Stand p l e R (s.setVm vm0) m args below meth c T locs cells slots) (hx : p.tables.exec = Jvm.exec) (hZ : Z.Warmed39 vm0) (hown : vm0.findClass own = some m.cls) (w : (Cond.stringLink own index text).before a0 Z = true) (wS : ∀ a ∈ Bundle.stringAtoms, a.before a0 Z = true)
    (eT : T.heap = h) (hS : s.Since vm0 k0) (hk : k0 ≤ h.size) (hEL : EW Z a0 EL) (hmem : (own, index) ∈ EL) (H : CHr Z EL s.vm h0 vm0 h)
    (ht : (∀ c ∈ text.toList, c.toNat < 256) ∧ text.toList.map (fun c => Value.int (Jvm.Lit.byteI c.toNat.toUInt16)) = vs) (hz : ¬ z < 0) (hl : z.toNatClampNeg = vs.length)
    (hd : decode c.code pc = .ok (.ldc index, 2)) (hn : 4 * text.toList.length ≤ n) (hbig : n ≤ 536870912) (hc : cells + 2 ≤ R.cells) (hl' : slots + (n + 4) ≤ R.slots) (hq : pc + 2 = q)
    (K : ∀ T' h' vm1 k1 a b k, Stand p l e R (s.setVm vm1) m args below meth c T' locs (cells + 2) (slots + (n + 4)) → T'.heap = h' → Ext h h' → s.Since vm1 k1 → k1 ≤ h'.size → Z.Warmed39 vm1 → vm1.findClass own = some m.cls → Exa Z h' a "java/lang/String" → Fld Z h' a "java/lang/String" "coder" "B" (.int 0) → Fld Z h' a "java/lang/String" "value" "[B" (.ref b) → Arv Z h' b k .byte z vs (.int 0) → CHr Z EL vm0 h vm1 h' → CHr Z EL s.vm h0 vm1 h' → (∀ x, Safe Z EL vm1 h' x → x ≠ a ∧ x ≠ b) → Go p e below P T' (mkF m q Ls (.ref a :: st))) : Go p e below P T (mkF m pc Ls st) := by
  subst hq
  obtain ⟨a, T', h', k1, b, k, X', e', E, hS', hk', hZ', hown', x1, x2, x3, x4, -, -, C, -, N, kk⟩ := ldcCH X hx hZ hown w wS eT hS hk hEL hmem H.1 ht hz hl (g := mkF m pc Ls st) rfl hd hn hbig hc hl'
  exact (K T' h' T'.vm k1 a b k X' e' E hS' hk' hZ' hown' x1 x2 x3 x4 C (H.trans C) N).back kk
variable {y z : MethodName} {bytes : ByteArray} {maxL : Nat} {ret : Option FieldType} {rm : Room} {as' : Array Value} {Qc : Option Value → Heap → List Loc → Prop} {own CL : String} {index W : Nat}
theorem ConS.pays {len : Nat} (M : ConS l Z EL sf y bytes maxL ret rm as' h Qc) (hZ : Z.Warmed39 vm0) (wc : (Cond.code y bytes maxL ret).before a0 Z = true) (wz : (Cond.initialized y.cls).before a0 Z = true) (hf : rm.frames + 1 ≤ R.frames) (hl : W + (maxL + 11) + rm.locals ≤ R.locals) (hEL : EW Z a0 EL) (H : CHv Z EL vm0 h) (hsf : ∀ x ∈ sf, Safe Z EL vm0 h x ∧ x < h.size) :
    BackS l R p e below (s.setVm vm0) args y len W (fun A a => a = as' ∧ A.U.heap = h ∧ A.cells + rm.cells ≤ R.cells ∧ A.slots + rm.slots ≤ R.slots)
      (fun A _ v B => ∃ L, Qc v B.U.heap L ∧ B.locs = A.locs ++ L ∧ B.cells = A.cells + rm.cells ∧ B.slots = A.slots + rm.slots ∧ CHr Z EL vm0 h B.U.vm B.U.heap) :=
  BackS.of_freeW (bytes := bytes) (maxL := maxL) (ret := ret) (E := fun _ first o t L k n => k = rm.cells ∧ n = rm.slots ∧ (∃ v, o = .returned v ∧ Qc v t.heap L) ∧ CHr Z EL first.vm first.heap t.vm t.heap) (M []) hf hl
    (fun m meth c A a Y hp => have hU : Z.Warmed39 A.U.vm := wtrans (s := s.setVm vm0) hZ Y.warmed
      ⟨by show (Cond.and _ .tt).before a A.U = true; rw [Cond.before_and, mv hU wc]; rfl, mv hU wc, mv hU wz, hp.2.2.1, hp.2.2.2⟩)
    (fun m meth c A a g mk Y hp => ⟨hp.1, wtrans (s := s.setVm vm0) hZ Y.warmed, hp.2.1, (CHv.at Y hZ hEL H).1, fun x hx => (CHv.at Y hZ hEL H).safe (hsf x hx).2 (hsf x hx).1⟩) (fun _ _ _ _ _ _ _ _ _ => trivial)
    (fun _ _ _ _ ⟨v, L, h1, h2, h3, h4⟩ => ⟨L, _, _, h4, rfl, rfl, ⟨v, h1, h2⟩, h3⟩)
    (fun m meth c A a g mk v t L k n Y hp _ _ ⟨e1, e2, ⟨v', e3, e4⟩, e5⟩ => by
      cases e3; subst e1 e2
      refine ⟨L, e4, rfl, rfl, rfl, (CHv.at Y hZ hEL H).trans ?_⟩
      rw [← hp.2.1]; exact e5)
theorem go_staticS (X : Stand p l e R (s.setVm vm0) m args below meth c T locs cells slots) (hx : p.tables.exec = Jvm.exec) (hZ : Z.Warmed39 vm0) (hown : vm0.findClass own = some m.cls) (hS : s.Since vm0 k0) (hk : k0 ≤ h.size) (hEL : EW Z a0 EL) (H : CHr Z EL s.vm h0 vm0 h) (hsf : ∀ x ∈ sf, Safe Z EL vm0 h x ∧ x < h.size) (w1 : (Cond.methodLink own index y).before a0 Z = true) (w2 : (Cond.static y).before a0 Z = true) (wz : (Cond.initialized y.cls).before a0 Z = true) (wc : (Cond.code y bytes maxL ret).before a0 Z = true) (hy : y.cls ≠ "java/lang/invoke/MethodHandle" ∧ y.cls ≠ "java/lang/invoke/VarHandle")
    (eT : T.heap = h) (M : ConS l Z EL sf y bytes maxL ret rm as' h Qc) (has : argsL.toArray = as') (hlen : ∀ sig, parseMethodDescriptor y.desc = some sig → argsL.length = sig.parameters.length) (hst : stk = argsL.reverse ++ rest) (hml : Ls.size = c.maxLocals) (hW : (rest.map fun v => v.category).sum ≤ W) (hd : decode c.code pc = .ok (.invokestatic index, 3)) (hf : rm.frames + 1 ≤ R.frames) (hl : W + (maxL + 11) + rm.locals ≤ R.locals) (hc : cells + rm.cells ≤ R.cells) (hs : slots + rm.slots ≤ R.slots) (hq : pc + 3 = q)
    (K : ∀ T' h' vm1 k1 v L, Stand p l e R (s.setVm vm1) m args below meth c T' (locs ++ L) (cells + rm.cells) (slots + rm.slots) → T'.heap = h' → s.Since vm1 k1 → k1 ≤ h'.size → Z.Warmed39 vm1 → vm1.findClass own = some m.cls → CHr Z EL vm0 h vm1 h' → CHr Z EL s.vm h0 vm1 h' → Qc v h' L → Go p e below P T' (mkF m q Ls (v.toList ++ rest))) : Go p e below P T (mkF m pc Ls stk) := by
  subst hq
  obtain ⟨v, _, ⟨T', L', k', n'⟩, -, X', h2, g2, ⟨L, hQ, e1, e2, e3, C⟩, k⟩ := callSS X hx (y := y) hown (mvT (s := s.setVm vm0) hZ w1) (mvT (s := s.setVm vm0) hZ w2) (mvT (s := s.setVm vm0) hZ wz) (mvT (s := s.setVm vm0) hZ wc) hy (M.pays (W := W) hZ wc wz hf hl hEL H.1 hsf) (g := mkF m pc Ls stk) rfl hml (argsL := argsL) (rest := rest) hlen hst (by show 2 * 0 + _ ≤ _; omega) hd (fun _ _ => ⟨has, eT, hc, hs⟩)
  dsimp only [Pt.U, Pt.locs, Pt.cells, Pt.slots] at X' e1 e2 e3 k hQ h2 g2 C
  subst e1 e2 e3
  obtain ⟨X2, hS2, hZ2, ho2⟩ := rebS hS (by rw [eT]; exact hk) X' h2 g2 hZ hown
  exact (K T' _ _ _ v L X2 rfl hS2 (Nat.le_refl _) hZ2 ho2 C (H.trans C) hQ).back fun _ j => k.trans j
theorem go_specialS {a : Addr} (X : Stand p l e R (s.setVm vm0) m args below meth c T locs cells slots) (hx : p.tables.exec = Jvm.exec) (hZ : Z.Warmed39 vm0) (hown : vm0.findClass own = some m.cls) (hS : s.Since vm0 k0) (hk : k0 ≤ h.size) (hEL : EW Z a0 EL) (H : CHr Z EL s.vm h0 vm0 h) (hsf : ∀ x ∈ sf, Safe Z EL vm0 h x ∧ x < h.size) (hy1 : y.name = "<init>") (w1 : (Cond.methodLink own index y).before a0 Z = true) (w2 : (Cond.instanceMethod y).before a0 Z = true) (wz : (Cond.initialized y.cls).before a0 Z = true) (wc : (Cond.code y bytes maxL none).before a0 Z = true) (hy : y.cls ≠ "java/lang/invoke/MethodHandle" ∧ y.cls ≠ "java/lang/invoke/VarHandle")
    (eT : T.heap = h) (M : ConS l Z EL sf y bytes maxL none rm as' h Qc) (has : (.ref a :: argsL).toArray = as') (hlen : ∀ sig, parseMethodDescriptor y.desc = some sig → argsL.length = sig.parameters.length) (hst : stk = argsL.reverse ++ .ref a :: rest) (hml : Ls.size = c.maxLocals) (hW : (rest.map fun v => v.category).sum ≤ W) (hd : decode c.code pc = .ok (.invokespecial index, 3)) (hf : rm.frames + 1 ≤ R.frames) (hl : W + (maxL + 11) + rm.locals ≤ R.locals) (hc : cells + rm.cells ≤ R.cells) (hs : slots + rm.slots ≤ R.slots) (hq : pc + 3 = q)
    (K : ∀ T' h' vm1 k1 v L, Stand p l e R (s.setVm vm1) m args below meth c T' (locs ++ L) (cells + rm.cells) (slots + rm.slots) → T'.heap = h' → s.Since vm1 k1 → k1 ≤ h'.size → Z.Warmed39 vm1 → vm1.findClass own = some m.cls → CHr Z EL vm0 h vm1 h' → CHr Z EL s.vm h0 vm1 h' → Qc v h' L → Go p e below P T' (mkF m q Ls (v.toList ++ rest))) : Go p e below P T (mkF m pc Ls stk) := by
  subst hq
  obtain ⟨v, _, ⟨T', L', k', n'⟩, -, X', h2, g2, ⟨L, hQ, e1, e2, e3, C⟩, k⟩ := X.specialBackS hx (y := y) hy1 hown (mvT (s := s.setVm vm0) hZ w1) (mvT (s := s.setVm vm0) hZ w2) (mvT (s := s.setVm vm0) hZ wc) hy (M.pays (W := W) hZ wc wz hf hl hEL H.1 hsf) (g := mkF m pc Ls stk) rfl hml (Steps.refl _) (a := a) (argsL := argsL) (rest := rest) hlen hst (by show 2 * 0 + _ ≤ _; omega) hd (fun _ _ => ⟨has, eT, hc, hs⟩)
  dsimp only [Pt.U, Pt.locs, Pt.cells, Pt.slots] at X' e1 e2 e3 k hQ h2 g2 C
  subst e1 e2 e3
  obtain ⟨X2, hS2, hZ2, ho2⟩ := rebS hS (by rw [eT]; exact hk) X' h2 g2 hZ hown
  exact (K T' _ _ _ v L X2 rfl hS2 (Nat.le_refl _) hZ2 ho2 C (H.trans C) hQ).back fun _ j => k.trans j
theorem go_virtualS {a : Addr} (X : Stand p l e R (s.setVm vm0) m args below meth c T locs cells slots) (hx : p.tables.exec = Jvm.exec) (hZ : Z.Warmed39 vm0) (hown : vm0.findClass own = some m.cls) (hS : s.Since vm0 k0) (hk : k0 ≤ h.size) (hEL : EW Z a0 EL) (H : CHr Z EL s.vm h0 vm0 h) (hsf : ∀ x ∈ sf, Safe Z EL vm0 h x ∧ x < h.size) (w1 : (Cond.methodLink own index y).before a0 Z = true) (w2 : (Cond.declares y).before a0 Z = true) (hnf : NotFace (s.setVm vm0) y) (w3 : (Cond.selects CL y z).before a0 Z = true) (w4 : (Cond.instanceMethod z).before a0 Z = true) (wz : (Cond.initialized z.cls).before a0 Z = true) (wc : (Cond.code z bytes maxL ret).before a0 Z = true) (hy : y.cls ≠ "java/lang/invoke/MethodHandle" ∧ y.cls ≠ "java/lang/invoke/VarHandle")
    (eT : T.heap = h) (E : Exa Z h a CL) (M : ConS l Z EL sf z bytes maxL ret rm as' h Qc) (has : (.ref a :: argsL).toArray = as') (hlen : ∀ sig, parseMethodDescriptor y.desc = some sig → argsL.length = sig.parameters.length) (hst : stk = argsL.reverse ++ .ref a :: rest) (hml : Ls.size = c.maxLocals) (hW : (rest.map fun v => v.category).sum ≤ W) (hd : decode c.code pc = .ok (.invokevirtual index, 3)) (hf : rm.frames + 1 ≤ R.frames) (hl : W + (maxL + 11) + rm.locals ≤ R.locals) (hc : cells + rm.cells ≤ R.cells) (hs : slots + rm.slots ≤ R.slots) (hq : pc + 3 = q)
    (K : ∀ T' h' vm1 k1 v L, Stand p l e R (s.setVm vm1) m args below meth c T' (locs ++ L) (cells + rm.cells) (slots + rm.slots) → T'.heap = h' → s.Since vm1 k1 → k1 ≤ h'.size → Z.Warmed39 vm1 → vm1.findClass own = some m.cls → CHr Z EL vm0 h vm1 h' → CHr Z EL s.vm h0 vm1 h' → Qc v h' L → Go p e below P T' (mkF m q Ls (v.toList ++ rest))) : Go p e below P T (mkF m pc Ls stk) := by
  subst hq
  obtain ⟨cq, kq, qa, qb, qc⟩ := isOf (s := s.setVm vm0) hZ eT E
  obtain ⟨v, _, ⟨T', L', k', n'⟩, -, X', h2, g2, ⟨L, hQ, e1, e2, e3, C⟩, k⟩ := X.virtualBackS hx (y := y) (z := z) hown (mvT (s := s.setVm vm0) hZ w1) (mvT (s := s.setVm vm0) hZ w2) hnf (mvT (s := s.setVm vm0) hZ w3) (mvT (s := s.setVm vm0) hZ w4) hy (M.pays (W := W) hZ wc wz hf hl hEL H.1 hsf) qa qc (g := mkF m pc Ls stk) rfl hml (Steps.refl _) (argsL := argsL) (rest := rest) hlen hst (by show 2 * 0 + _ ≤ _; omega) hd (fun _ _ => ⟨has, eT, hc, hs⟩)
  dsimp only [Pt.U, Pt.locs, Pt.cells, Pt.slots] at X' e1 e2 e3 k hQ h2 g2 C
  subst e1 e2 e3
  obtain ⟨X2, hS2, hZ2, ho2⟩ := rebS hS (by rw [eT]; exact hk) X' h2 g2 hZ hown
  exact (K T' _ _ _ v L X2 rfl hS2 (Nat.le_refl _) hZ2 ho2 C (H.trans C) hQ).back fun _ j => k.trans j
end OwnKitS
theorem own_shr0 (x : Int32) : x >>> ((0 : Int32) &&& 31) = x := by
  rw [show ((0 : Int32) &&& 31) = 0 by decide]; apply Int32.toBitVec_inj.mp; simp
theorem own_le255 (x : Int32) : ¬ (255 : Int32) < (x &&& (255 : Int32)) := by
  have h := Jvm.Kit.i32_mask x 255 (k := 8) (by decide) (by decide)
  rw [Int32.lt_iff_toInt_lt, show (255 : Int32).toInt = 255 by decide]; omega
theorem own_mod5 (x : Int32) : ((x &&& (2147483647 : Int32)) % (5 : Int32)) = 0 ∨ ((x &&& (2147483647 : Int32)) % (5 : Int32)) = 1 ∨ ((x &&& (2147483647 : Int32)) % (5 : Int32)) = 2 ∨ ((x &&& (2147483647 : Int32)) % (5 : Int32)) = 3 ∨ ((x &&& (2147483647 : Int32)) % (5 : Int32)) = 4 := by
  have h := Jvm.Kit.i32_mask x 2147483647 (k := 31) (by decide) (by decide)
  have h2 := Jvm.Kit.i32_rem_nonneg (x := x &&& 2147483647) (y := 5) (by omega)
  rw [show (5 : Int32).toInt = 5 by decide] at h2
  have h1 : ((x &&& 2147483647) % 5).toInt = 0 ∨ ((x &&& 2147483647) % 5).toInt = 1 ∨ ((x &&& 2147483647) % 5).toInt = 2 ∨ ((x &&& 2147483647) % 5).toInt = 3 ∨ ((x &&& 2147483647) % 5).toInt = 4 := by omega
  rcases h1 with e | e | e | e | e
  · exact Or.inl (Int32.toInt_inj.mp e)
  · exact Or.inr (Or.inl (Int32.toInt_inj.mp e))
  · exact Or.inr (Or.inr (Or.inl (Int32.toInt_inj.mp e)))
  · exact Or.inr (Or.inr (Or.inr (Or.inl (Int32.toInt_inj.mp e))))
  · exact Or.inr (Or.inr (Or.inr (Or.inr (Int32.toInt_inj.mp e))))
theorem own_b69 (x : Int32) : (x &&& (255 : Int32)).toInt8.toInt32 = 69 ↔ (x &&& (255 : Int32)) = 69 := by
  have h := Jvm.Kit.i32_mask x 255 (k := 8) (by decide) (by decide)
  rw [← Int32.toInt_inj, ← Int32.toInt_inj, Int8.toInt_toInt32, Int32.toInt_toInt8, show (69 : Int32).toInt = 69 by decide]
  generalize (x &&& 255).toInt = y at *
  simp only [Int.bmod]
  split <;> omega
theorem d1_0 : decode jdk_42_method_3_code 0 = .ok (.aload_n 0, 1) := by decide +kernel
theorem d1_1 : decode jdk_42_method_3_code 1 = .ok (.aload_n 1, 1) := by decide +kernel
theorem d1_2 : decode jdk_42_method_3_code 2 = .ok (.iconst 0, 1) := by decide +kernel
theorem d1_3 : decode jdk_42_method_3_code 3 = .ok (.aload_n 1, 1) := by decide +kernel
theorem d1_4 : decode jdk_42_method_3_code 4 = .ok (.arraylength, 1) := by decide +kernel
theorem d1_5 : decode jdk_42_method_3_code 5 = .ok (.aconst_null, 1) := by decide +kernel
theorem d1_6 : decode jdk_42_method_3_code 6 = .ok (.invokespecial 27, 3) := by decide +kernel
theorem d1_9 : decode jdk_42_method_3_code 9 = .ok (.return_, 1) := by decide +kernel
theorem d2_0 : decode jdk_42_method_149_code 0 = .ok (.aload_n 0, 1) := by decide +kernel
theorem d2_1 : decode jdk_42_method_149_code 1 = .ok (.invokespecial 1, 3) := by decide +kernel
theorem d2_4 : decode jdk_42_method_149_code 4 = .ok (.iload_n 3, 1) := by decide +kernel
theorem d2_5 : decode jdk_42_method_149_code 5 = .ok (.ifCond .ne 22, 3) := by decide +kernel
theorem d2_8 : decode jdk_42_method_149_code 8 = .ok (.aload_n 0, 1) := by decide +kernel
theorem d2_9 : decode jdk_42_method_149_code 9 = .ok (.ldc 7, 2) := by decide +kernel
theorem d2_11 : decode jdk_42_method_149_code 11 = .ok (.getfield 9, 3) := by decide +kernel
theorem d2_14 : decode jdk_42_method_149_code 14 = .ok (.putfield 9, 3) := by decide +kernel
theorem d2_17 : decode jdk_42_method_149_code 17 = .ok (.aload_n 0, 1) := by decide +kernel
theorem d2_18 : decode jdk_42_method_149_code 18 = .ok (.ldc 7, 2) := by decide +kernel
theorem d2_20 : decode jdk_42_method_149_code 20 = .ok (.getfield 15, 3) := by decide +kernel
theorem d2_23 : decode jdk_42_method_149_code 23 = .ok (.putfield 15, 3) := by decide +kernel
theorem d2_26 : decode jdk_42_method_149_code 26 = .ok (.return_, 1) := by decide +kernel
theorem d2_27 : decode jdk_42_method_149_code 27 = .ok (.getstatic 38, 3) := by decide +kernel
theorem d2_30 : decode jdk_42_method_149_code 30 = .ok (.ifCond .eq 28, 3) := by decide +kernel
theorem d2_33 : decode jdk_42_method_149_code 33 = .ok (.aload_n 1, 1) := by decide +kernel
theorem d2_34 : decode jdk_42_method_149_code 34 = .ok (.iload_n 2, 1) := by decide +kernel
theorem d2_35 : decode jdk_42_method_149_code 35 = .ok (.iload_n 3, 1) := by decide +kernel
theorem d2_36 : decode jdk_42_method_149_code 36 = .ok (.invokestatic 177, 3) := by decide +kernel
theorem d2_39 : decode jdk_42_method_149_code 39 = .ok (.astore 5, 2) := by decide +kernel
theorem d2_41 : decode jdk_42_method_149_code 41 = .ok (.aload_n 0, 1) := by decide +kernel
theorem d2_42 : decode jdk_42_method_149_code 42 = .ok (.aload 5, 2) := by decide +kernel
theorem d2_44 : decode jdk_42_method_149_code 44 = .ok (.iload_n 3, 1) := by decide +kernel
theorem d2_45 : decode jdk_42_method_149_code 45 = .ok (.invokestatic 47, 3) := by decide +kernel
theorem d2_48 : decode jdk_42_method_149_code 48 = .ok (.putfield 15, 3) := by decide +kernel
theorem d2_51 : decode jdk_42_method_149_code 51 = .ok (.aload_n 0, 1) := by decide +kernel
theorem d2_52 : decode jdk_42_method_149_code 52 = .ok (.aload 5, 2) := by decide +kernel
theorem d2_54 : decode jdk_42_method_149_code 54 = .ok (.putfield 9, 3) := by decide +kernel
theorem d2_57 : decode jdk_42_method_149_code 57 = .ok (.return_, 1) := by decide +kernel
theorem d4_0 : decode prog_21_method_3_code 0 = .ok (.aload_n 0, 1) := by decide +kernel
theorem d4_1 : decode prog_21_method_3_code 1 = .ok (.bipush 69, 2) := by decide +kernel
theorem d4_3 : decode prog_21_method_3_code 3 = .ok (.invokevirtual 33, 3) := by decide +kernel
theorem d4_6 : decode prog_21_method_3_code 6 = .ok (.ifCond .lt 7, 3) := by decide +kernel
theorem d4_9 : decode prog_21_method_3_code 9 = .ok (.iconst 1, 1) := by decide +kernel
theorem d4_10 : decode prog_21_method_3_code 10 = .ok (.goto 4, 3) := by decide +kernel
theorem d4_13 : decode prog_21_method_3_code 13 = .ok (.iconst 0, 1) := by decide +kernel
theorem d4_14 : decode prog_21_method_3_code 14 = .ok (.ireturn, 1) := by decide +kernel
theorem d5_0 : decode jdk_42_method_79_code 0 = .ok (.aload_n 0, 1) := by decide +kernel
theorem d5_1 : decode jdk_42_method_79_code 1 = .ok (.iload_n 1, 1) := by decide +kernel
theorem d5_2 : decode jdk_42_method_79_code 2 = .ok (.iconst 0, 1) := by decide +kernel
theorem d5_3 : decode jdk_42_method_79_code 3 = .ok (.invokevirtual 633, 3) := by decide +kernel
theorem d5_6 : decode jdk_42_method_79_code 6 = .ok (.ireturn, 1) := by decide +kernel
theorem d6_0 : decode jdk_42_method_80_code 0 = .ok (.aload_n 0, 1) := by decide +kernel
theorem d6_1 : decode jdk_42_method_80_code 1 = .ok (.invokevirtual 492, 3) := by decide +kernel
theorem d6_4 : decode jdk_42_method_80_code 4 = .ok (.ifCond .eq 19, 3) := by decide +kernel
theorem d6_7 : decode jdk_42_method_80_code 7 = .ok (.aload_n 0, 1) := by decide +kernel
theorem d6_8 : decode jdk_42_method_80_code 8 = .ok (.getfield 9, 3) := by decide +kernel
theorem d6_11 : decode jdk_42_method_80_code 11 = .ok (.iload_n 1, 1) := by decide +kernel
theorem d6_12 : decode jdk_42_method_80_code 12 = .ok (.iload_n 2, 1) := by decide +kernel
theorem d6_13 : decode jdk_42_method_80_code 13 = .ok (.aload_n 0, 1) := by decide +kernel
theorem d6_14 : decode jdk_42_method_80_code 14 = .ok (.invokevirtual 505, 3) := by decide +kernel
theorem d6_17 : decode jdk_42_method_80_code 17 = .ok (.invokestatic 637, 3) := by decide +kernel
theorem d6_20 : decode jdk_42_method_80_code 20 = .ok (.goto 16, 3) := by decide +kernel
theorem d6_36 : decode jdk_42_method_80_code 36 = .ok (.ireturn, 1) := by decide +kernel
theorem d7_0 : decode jdk_42_method_154_code 0 = .ok (.getstatic 38, 3) := by decide +kernel
theorem d7_3 : decode jdk_42_method_154_code 3 = .ok (.ifCond .eq 14, 3) := by decide +kernel
theorem d7_6 : decode jdk_42_method_154_code 6 = .ok (.aload_n 0, 1) := by decide +kernel
theorem d7_7 : decode jdk_42_method_154_code 7 = .ok (.getfield 15, 3) := by decide +kernel
theorem d7_10 : decode jdk_42_method_154_code 10 = .ok (.ifCond .ne 7, 3) := by decide +kernel
theorem d7_13 : decode jdk_42_method_154_code 13 = .ok (.iconst 1, 1) := by decide +kernel
theorem d7_14 : decode jdk_42_method_154_code 14 = .ok (.goto 4, 3) := by decide +kernel
theorem d7_18 : decode jdk_42_method_154_code 18 = .ok (.ireturn, 1) := by decide +kernel
theorem d8_0 : decode jdk_42_method_54_code 0 = .ok (.aload_n 0, 1) := by decide +kernel
theorem d8_1 : decode jdk_42_method_54_code 1 = .ok (.getfield 9, 3) := by decide +kernel
theorem d8_4 : decode jdk_42_method_54_code 4 = .ok (.arraylength, 1) := by decide +kernel
theorem d8_5 : decode jdk_42_method_54_code 5 = .ok (.aload_n 0, 1) := by decide +kernel
theorem d8_6 : decode jdk_42_method_54_code 6 = .ok (.invokevirtual 335, 3) := by decide +kernel
theorem d8_9 : decode jdk_42_method_54_code 9 = .ok (.ishr, 1) := by decide +kernel
theorem d8_10 : decode jdk_42_method_54_code 10 = .ok (.ireturn, 1) := by decide +kernel
theorem d9_0 : decode jdk_42_method_152_code 0 = .ok (.getstatic 38, 3) := by decide +kernel
theorem d9_3 : decode jdk_42_method_152_code 3 = .ok (.ifCond .eq 10, 3) := by decide +kernel
theorem d9_6 : decode jdk_42_method_152_code 6 = .ok (.aload_n 0, 1) := by decide +kernel
theorem d9_7 : decode jdk_42_method_152_code 7 = .ok (.getfield 15, 3) := by decide +kernel
theorem d9_10 : decode jdk_42_method_152_code 10 = .ok (.goto 4, 3) := by decide +kernel
theorem d9_14 : decode jdk_42_method_152_code 14 = .ok (.ireturn, 1) := by decide +kernel
theorem d10_0 : decode jdk_43_method_22_code 0 = .ok (.iload_n 1, 1) := by decide +kernel
theorem d10_1 : decode jdk_43_method_22_code 1 = .ok (.invokestatic 88, 3) := by decide +kernel
theorem d10_4 : decode jdk_43_method_22_code 4 = .ok (.ifCond .ne 5, 3) := by decide +kernel
theorem d10_9 : decode jdk_43_method_22_code 9 = .ok (.iload_n 2, 1) := by decide +kernel
theorem d10_10 : decode jdk_43_method_22_code 10 = .ok (.iconst 0, 1) := by decide +kernel
theorem d10_11 : decode jdk_43_method_22_code 11 = .ok (.invokestatic 92, 3) := by decide +kernel
theorem d10_14 : decode jdk_43_method_22_code 14 = .ok (.istore_n 2, 1) := by decide +kernel
theorem d10_15 : decode jdk_43_method_22_code 15 = .ok (.iload_n 3, 1) := by decide +kernel
theorem d10_16 : decode jdk_43_method_22_code 16 = .ok (.aload_n 0, 1) := by decide +kernel
theorem d10_17 : decode jdk_43_method_22_code 17 = .ok (.arraylength, 1) := by decide +kernel
theorem d10_18 : decode jdk_43_method_22_code 18 = .ok (.invokestatic 38, 3) := by decide +kernel
theorem d10_21 : decode jdk_43_method_22_code 21 = .ok (.istore_n 3, 1) := by decide +kernel
theorem d10_22 : decode jdk_43_method_22_code 22 = .ok (.iload_n 2, 1) := by decide +kernel
theorem d10_23 : decode jdk_43_method_22_code 23 = .ok (.iload_n 3, 1) := by decide +kernel
theorem d10_24 : decode jdk_43_method_22_code 24 = .ok (.if_icmp .lt 5, 3) := by decide +kernel
theorem d10_27 : decode jdk_43_method_22_code 27 = .ok (.iconst (-1), 1) := by decide +kernel
theorem d10_28 : decode jdk_43_method_22_code 28 = .ok (.ireturn, 1) := by decide +kernel
theorem d10_29 : decode jdk_43_method_22_code 29 = .ok (.aload_n 0, 1) := by decide +kernel
theorem d10_30 : decode jdk_43_method_22_code 30 = .ok (.iload_n 1, 1) := by decide +kernel
theorem d10_31 : decode jdk_43_method_22_code 31 = .ok (.iload_n 2, 1) := by decide +kernel
theorem d10_32 : decode jdk_43_method_22_code 32 = .ok (.iload_n 3, 1) := by decide +kernel
theorem d10_33 : decode jdk_43_method_22_code 33 = .ok (.invokestatic 95, 3) := by decide +kernel
theorem d10_36 : decode jdk_43_method_22_code 36 = .ok (.ireturn, 1) := by decide +kernel
theorem d11_0 : decode jdk_43_method_4_code 0 = .ok (.iload_n 0, 1) := by decide +kernel
theorem d11_1 : decode jdk_43_method_4_code 1 = .ok (.ifCond .lt 14, 3) := by decide +kernel
theorem d11_4 : decode jdk_43_method_4_code 4 = .ok (.iload_n 0, 1) := by decide +kernel
theorem d11_5 : decode jdk_43_method_4_code 5 = .ok (.sipush 255, 3) := by decide +kernel
theorem d11_8 : decode jdk_43_method_4_code 8 = .ok (.if_icmp .gt 7, 3) := by decide +kernel
theorem d11_11 : decode jdk_43_method_4_code 11 = .ok (.iconst 1, 1) := by decide +kernel
theorem d11_12 : decode jdk_43_method_4_code 12 = .ok (.goto 4, 3) := by decide +kernel
theorem d11_16 : decode jdk_43_method_4_code 16 = .ok (.ireturn, 1) := by decide +kernel
theorem d12_0 : decode jdk_29_method_65_code 0 = .ok (.iload_n 0, 1) := by decide +kernel
theorem d12_1 : decode jdk_29_method_65_code 1 = .ok (.iload_n 1, 1) := by decide +kernel
theorem d12_2 : decode jdk_29_method_65_code 2 = .ok (.if_icmp .lt 7, 3) := by decide +kernel
theorem d12_5 : decode jdk_29_method_65_code 5 = .ok (.iload_n 0, 1) := by decide +kernel
theorem d12_6 : decode jdk_29_method_65_code 6 = .ok (.goto 4, 3) := by decide +kernel
theorem d12_10 : decode jdk_29_method_65_code 10 = .ok (.ireturn, 1) := by decide +kernel
theorem d13_0 : decode jdk_29_method_69_code 0 = .ok (.iload_n 0, 1) := by decide +kernel
theorem d13_1 : decode jdk_29_method_69_code 1 = .ok (.iload_n 1, 1) := by decide +kernel
theorem d13_2 : decode jdk_29_method_69_code 2 = .ok (.if_icmp .gt 7, 3) := by decide +kernel
theorem d13_5 : decode jdk_29_method_69_code 5 = .ok (.iload_n 0, 1) := by decide +kernel
theorem d13_6 : decode jdk_29_method_69_code 6 = .ok (.goto 4, 3) := by decide +kernel
theorem d13_10 : decode jdk_29_method_69_code 10 = .ok (.ireturn, 1) := by decide +kernel
theorem d14_0 : decode jdk_52_method_16_code 0 = .ok (.iload_n 2, 1) := by decide +kernel
theorem d14_1 : decode jdk_52_method_16_code 1 = .ok (.newarray .byte, 2) := by decide +kernel
theorem d14_3 : decode jdk_52_method_16_code 3 = .ok (.astore_n 3, 1) := by decide +kernel
theorem d14_4 : decode jdk_52_method_16_code 4 = .ok (.aload_n 0, 1) := by decide +kernel
theorem d14_5 : decode jdk_52_method_16_code 5 = .ok (.iload_n 1, 1) := by decide +kernel
theorem d14_6 : decode jdk_52_method_16_code 6 = .ok (.aload_n 3, 1) := by decide +kernel
theorem d14_7 : decode jdk_52_method_16_code 7 = .ok (.iconst 0, 1) := by decide +kernel
theorem d14_8 : decode jdk_52_method_16_code 8 = .ok (.iload_n 2, 1) := by decide +kernel
theorem d14_9 : decode jdk_52_method_16_code 9 = .ok (.invokestatic 115, 3) := by decide +kernel
theorem d14_12 : decode jdk_52_method_16_code 12 = .ok (.istore 4, 2) := by decide +kernel
theorem d14_14 : decode jdk_52_method_16_code 14 = .ok (.iload 4, 2) := by decide +kernel
theorem d14_16 : decode jdk_52_method_16_code 16 = .ok (.iload_n 2, 1) := by decide +kernel
theorem d14_17 : decode jdk_52_method_16_code 17 = .ok (.if_icmp .eq 40, 3) := by decide +kernel
theorem d14_57 : decode jdk_52_method_16_code 57 = .ok (.aload_n 3, 1) := by decide +kernel
theorem d14_58 : decode jdk_52_method_16_code 58 = .ok (.areturn, 1) := by decide +kernel
theorem d15_0 : decode jdk_52_method_21_code 0 = .ok (.iconst 0, 1) := by decide +kernel
theorem d15_1 : decode jdk_52_method_21_code 1 = .ok (.istore 5, 2) := by decide +kernel
theorem d15_3 : decode jdk_52_method_21_code 3 = .ok (.iload 5, 2) := by decide +kernel
theorem d15_5 : decode jdk_52_method_21_code 5 = .ok (.iload 4, 2) := by decide +kernel
theorem d15_7 : decode jdk_52_method_21_code 7 = .ok (.if_icmp .ge 37, 3) := by decide +kernel
theorem d15_10 : decode jdk_52_method_21_code 10 = .ok (.aload_n 0, 1) := by decide +kernel
theorem d15_11 : decode jdk_52_method_21_code 11 = .ok (.iload_n 1, 1) := by decide +kernel
theorem d15_12 : decode jdk_52_method_21_code 12 = .ok (.caload, 1) := by decide +kernel
theorem d15_13 : decode jdk_52_method_21_code 13 = .ok (.istore 6, 2) := by decide +kernel
theorem d15_15 : decode jdk_52_method_21_code 15 = .ok (.iload 6, 2) := by decide +kernel
theorem d15_17 : decode jdk_52_method_21_code 17 = .ok (.sipush 255, 3) := by decide +kernel
theorem d15_20 : decode jdk_52_method_21_code 20 = .ok (.if_icmp .le 6, 3) := by decide +kernel
theorem d15_26 : decode jdk_52_method_21_code 26 = .ok (.aload_n 2, 1) := by decide +kernel
theorem d15_27 : decode jdk_52_method_21_code 27 = .ok (.iload_n 3, 1) := by decide +kernel
theorem d15_28 : decode jdk_52_method_21_code 28 = .ok (.iload 6, 2) := by decide +kernel
theorem d15_30 : decode jdk_52_method_21_code 30 = .ok (.i2b, 1) := by decide +kernel
theorem d15_31 : decode jdk_52_method_21_code 31 = .ok (.bastore, 1) := by decide +kernel
theorem d15_32 : decode jdk_52_method_21_code 32 = .ok (.iinc 1 1, 3) := by decide +kernel
theorem d15_35 : decode jdk_52_method_21_code 35 = .ok (.iinc 3 1, 3) := by decide +kernel
theorem d15_38 : decode jdk_52_method_21_code 38 = .ok (.iinc 5 1, 3) := by decide +kernel
theorem d15_41 : decode jdk_52_method_21_code 41 = .ok (.goto (-38), 3) := by decide +kernel
theorem d15_44 : decode jdk_52_method_21_code 44 = .ok (.iload 4, 2) := by decide +kernel
theorem d15_46 : decode jdk_52_method_21_code 46 = .ok (.ireturn, 1) := by decide +kernel
theorem d16_0 : decode jdk_52_method_15_code 0 = .ok (.iload_n 1, 1) := by decide +kernel
theorem d16_1 : decode jdk_52_method_15_code 1 = .ok (.aload_n 0, 1) := by decide +kernel
theorem d16_2 : decode jdk_52_method_15_code 2 = .ok (.arraylength, 1) := by decide +kernel
theorem d16_3 : decode jdk_52_method_15_code 3 = .ok (.isub, 1) := by decide +kernel
theorem d16_4 : decode jdk_52_method_15_code 4 = .ok (.bipush 31, 2) := by decide +kernel
theorem d16_6 : decode jdk_52_method_15_code 6 = .ok (.iushr, 1) := by decide +kernel
theorem d16_7 : decode jdk_52_method_15_code 7 = .ok (.i2b, 1) := by decide +kernel
theorem d16_8 : decode jdk_52_method_15_code 8 = .ok (.ireturn, 1) := by decide +kernel
theorem d17_0 : decode jdk_43_method_23_code 0 = .ok (.iload_n 1, 1) := by decide +kernel
theorem d17_1 : decode jdk_43_method_23_code 1 = .ok (.i2b, 1) := by decide +kernel
theorem d17_2 : decode jdk_43_method_23_code 2 = .ok (.istore 4, 2) := by decide +kernel
theorem d17_4 : decode jdk_43_method_23_code 4 = .ok (.iload_n 2, 1) := by decide +kernel
theorem d17_5 : decode jdk_43_method_23_code 5 = .ok (.istore 5, 2) := by decide +kernel
theorem d17_7 : decode jdk_43_method_23_code 7 = .ok (.iload 5, 2) := by decide +kernel
theorem d17_9 : decode jdk_43_method_23_code 9 = .ok (.iload_n 3, 1) := by decide +kernel
theorem d17_10 : decode jdk_43_method_23_code 10 = .ok (.if_icmp .ge 21, 3) := by decide +kernel
theorem d17_13 : decode jdk_43_method_23_code 13 = .ok (.aload_n 0, 1) := by decide +kernel
theorem d17_14 : decode jdk_43_method_23_code 14 = .ok (.iload 5, 2) := by decide +kernel
theorem d17_16 : decode jdk_43_method_23_code 16 = .ok (.baload, 1) := by decide +kernel
theorem d17_17 : decode jdk_43_method_23_code 17 = .ok (.iload 4, 2) := by decide +kernel
theorem d17_19 : decode jdk_43_method_23_code 19 = .ok (.if_icmp .ne 6, 3) := by decide +kernel
theorem d17_22 : decode jdk_43_method_23_code 22 = .ok (.iload 5, 2) := by decide +kernel
theorem d17_24 : decode jdk_43_method_23_code 24 = .ok (.ireturn, 1) := by decide +kernel
theorem d17_25 : decode jdk_43_method_23_code 25 = .ok (.iinc 5 1, 3) := by decide +kernel
theorem d17_28 : decode jdk_43_method_23_code 28 = .ok (.goto (-21), 3) := by decide +kernel
theorem d17_31 : decode jdk_43_method_23_code 31 = .ok (.iconst (-1), 1) := by decide +kernel
theorem d17_32 : decode jdk_43_method_23_code 32 = .ok (.ireturn, 1) := by decide +kernel
theorem pn_0 : plainName "java/lang/StringUTF16" = true := by first | (simp [plainName, overriddenIn]; done) | decide +kernel
theorem pn_1 : plainName "java/lang/String" = true := by first | (simp [plainName, overriddenIn]; done) | decide +kernel
theorem pn_2 : plainName "java/lang/StringLatin1" = true := by first | (simp [plainName, overriddenIn]; done) | decide +kernel
theorem pn_3 : plainName "com/example/harborspread/harborspread/Decimals" = true := by first | (simp [plainName, overriddenIn]; done) | decide +kernel
theorem pn_4 : plainName "com/example/harborspread/harborspread/DecimalsIsTooLongPinLaw" = true := by first | (simp [plainName, overriddenIn]; done) | decide +kernel
theorem pd_0 : parseMethodDescriptor "([CI[BII)I" = some ⟨[(.array .char), .int, (.array .byte), .int, .int], some .int⟩ := by decide +kernel
theorem pd_1 : parseMethodDescriptor "([CII)[B" = some ⟨[(.array .char), .int, .int], some (.array .byte)⟩ := by decide +kernel
theorem pd_2 : parseMethodDescriptor "([BI)B" = some ⟨[(.array .byte), .int], some .byte⟩ := by decide +kernel
theorem pd_3 : parseMethodDescriptor "([CIILjava/lang/Void;)V" = some ⟨[(.array .char), .int, .int, (.object "java/lang/Void")], none⟩ := by decide +kernel
theorem pd_4 : parseMethodDescriptor "()B" = some ⟨[], some .byte⟩ := by decide +kernel
theorem pd_5 : parseMethodDescriptor "(I)Z" = some ⟨[.int], some .boolean⟩ := by decide +kernel
theorem pd_6 : parseMethodDescriptor "(II)I" = some ⟨[.int, .int], some .int⟩ := by decide +kernel
theorem pd_7 : parseMethodDescriptor "()Z" = some ⟨[], some .boolean⟩ := by decide +kernel
theorem pd_8 : parseMethodDescriptor "()I" = some ⟨[], some .int⟩ := by decide +kernel
theorem pd_9 : parseMethodDescriptor "([BIII)I" = some ⟨[(.array .byte), .int, .int, .int], some .int⟩ := by decide +kernel
theorem pd_10 : parseMethodDescriptor "(I)I" = some ⟨[.int], some .int⟩ := by decide +kernel
theorem pd_11 : parseMethodDescriptor "([C)V" = some ⟨[(.array .char)], none⟩ := by decide +kernel
theorem pd_12 : parseMethodDescriptor "(Ljava/lang/String;)Z" = some ⟨[(.object "java/lang/String")], some .boolean⟩ := by decide +kernel
theorem w0 {Z : State} {a0 : Array Value} (hw : ∀ d ∈ tables_1, d.before a0 Z = true) : (Jvm.Cond.constant "com/example/harborspread/harborspread/DecimalsIsTooLongPinLaw" (7 : Nat) (2147483647 : Int32)).before a0 Z = true := hw _ (List.mem_of_getElem? (i := 0) rfl)
theorem w1 {Z : State} {a0 : Array Value} (hw : ∀ d ∈ tables_1, d.before a0 Z = true) : (Jvm.Cond.arrayClass Jvm.ClassFile.FieldType.char).before a0 Z = true := hw _ (List.mem_of_getElem? (i := 1) rfl)
theorem w2 {Z : State} {a0 : Array Value} (hw : ∀ d ∈ tables_1, d.before a0 Z = true) : (Jvm.Cond.classLink "com/example/harborspread/harborspread/DecimalsIsTooLongPinLaw" (8 : Nat) "java/lang/String").before a0 Z = true := hw _ (List.mem_of_getElem? (i := 2) rfl)
theorem w3 {Z : State} {a0 : Array Value} (hw : ∀ d ∈ tables_1, d.before a0 Z = true) : (Jvm.Cond.instantiable "java/lang/String" (4 : Nat)).before a0 Z = true := hw _ (List.mem_of_getElem? (i := 3) rfl)
theorem w4 {Z : State} {a0 : Array Value} (hw : ∀ d ∈ tables_1, d.before a0 Z = true) : (Jvm.Cond.initialized "java/lang/String").before a0 Z = true := hw _ (List.mem_of_getElem? (i := 4) rfl)
theorem w5 {Z : State} {a0 : Array Value} (hw : ∀ d ∈ tables_1, d.before a0 Z = true) : (Jvm.Cond.methodLink "com/example/harborspread/harborspread/DecimalsIsTooLongPinLaw" (10 : Nat) ({ cls := "java/lang/String", name := "<init>", desc := "([C)V" } : Jvm.MethodName)).before a0 Z = true := hw _ (List.mem_of_getElem? (i := 5) rfl)
theorem w6 {Z : State} {a0 : Array Value} (hw : ∀ d ∈ tables_1, d.before a0 Z = true) : (Jvm.Cond.instanceMethod ({ cls := "java/lang/String", name := "<init>", desc := "([C)V" } : Jvm.MethodName)).before a0 Z = true := hw _ (List.mem_of_getElem? (i := 6) rfl)
theorem w7 {Z : State} {a0 : Array Value} (hw : ∀ d ∈ tables_1, d.before a0 Z = true) : (Jvm.Cond.code ({ cls := "java/lang/String", name := "<init>", desc := "([C)V" } : Jvm.MethodName) jdk_42_method_3_code (2 : Nat) (Option.none : Option Jvm.ClassFile.FieldType)).before a0 Z = true := hw _ (List.mem_of_getElem? (i := 7) rfl)
theorem w8 {Z : State} {a0 : Array Value} (hw : ∀ d ∈ tables_1, d.before a0 Z = true) : (Jvm.Cond.methodLink "java/lang/String" (27 : Nat) ({ cls := "java/lang/String", name := "<init>", desc := "([CIILjava/lang/Void;)V" } : Jvm.MethodName)).before a0 Z = true := hw _ (List.mem_of_getElem? (i := 8) rfl)
theorem w9 {Z : State} {a0 : Array Value} (hw : ∀ d ∈ tables_1, d.before a0 Z = true) : (Jvm.Cond.instanceMethod ({ cls := "java/lang/String", name := "<init>", desc := "([CIILjava/lang/Void;)V" } : Jvm.MethodName)).before a0 Z = true := hw _ (List.mem_of_getElem? (i := 9) rfl)
theorem w11 {Z : State} {a0 : Array Value} (hw : ∀ d ∈ tables_1, d.before a0 Z = true) : (Jvm.Cond.code ({ cls := "java/lang/String", name := "<init>", desc := "([CIILjava/lang/Void;)V" } : Jvm.MethodName) jdk_42_method_149_code (6 : Nat) (Option.none : Option Jvm.ClassFile.FieldType)).before a0 Z = true := hw _ (List.mem_of_getElem? (i := 11) rfl)
theorem w12 {Z : State} {a0 : Array Value} (hw : ∀ d ∈ tables_1, d.before a0 Z = true) : (Jvm.Cond.methodLink "java/lang/String" (1 : Nat) ({ cls := "java/lang/Object", name := "<init>", desc := "()V" } : Jvm.MethodName)).before a0 Z = true := hw _ (List.mem_of_getElem? (i := 12) rfl)
theorem w13 {Z : State} {a0 : Array Value} (hw : ∀ d ∈ tables_1, d.before a0 Z = true) : (Jvm.Cond.instanceMethod ({ cls := "java/lang/Object", name := "<init>", desc := "()V" } : Jvm.MethodName)).before a0 Z = true := hw _ (List.mem_of_getElem? (i := 13) rfl)
theorem w14 {Z : State} {a0 : Array Value} (hw : ∀ d ∈ tables_1, d.before a0 Z = true) : (Jvm.Cond.code ({ cls := "java/lang/Object", name := "<init>", desc := "()V" } : Jvm.MethodName) object_method_1_code (1 : Nat) (Option.none : Option Jvm.ClassFile.FieldType)).before a0 Z = true := hw _ (List.mem_of_getElem? (i := 14) rfl)
theorem w15 {Z : State} {a0 : Array Value} (hw : ∀ d ∈ tables_1, d.before a0 Z = true) : (Jvm.Cond.stringLink "java/lang/String" (7 : Nat) "").before a0 Z = true := hw _ (List.mem_of_getElem? (i := 15) rfl)
theorem w16 {Z : State} {a0 : Array Value} (hw : ∀ d ∈ tables_1, d.before a0 Z = true) : (Jvm.Cond.arrayClass Jvm.ClassFile.FieldType.byte).before a0 Z = true := hw _ (List.mem_of_getElem? (i := 16) rfl)
theorem w17 {Z : State} {a0 : Array Value} (hw : ∀ d ∈ tables_1, d.before a0 Z = true) : (Jvm.Cond.laysFinal "java/lang/String" "java/lang/String" "value" "[B").before a0 Z = true := hw _ (List.mem_of_getElem? (i := 17) rfl)
theorem w18 {Z : State} {a0 : Array Value} (hw : ∀ d ∈ tables_1, d.before a0 Z = true) : (Jvm.Cond.laysFinal "java/lang/String" "java/lang/String" "coder" "B").before a0 Z = true := hw _ (List.mem_of_getElem? (i := 18) rfl)
theorem w19 {Z : State} {a0 : Array Value} (hw : ∀ d ∈ tables_1, d.before a0 Z = true) : (Jvm.Cond.soleField "java/lang/String" "value").before a0 Z = true := hw _ (List.mem_of_getElem? (i := 19) rfl)
theorem w20 {Z : State} {a0 : Array Value} (hw : ∀ d ∈ tables_1, d.before a0 Z = true) : (Jvm.Cond.soleField "java/lang/String" "coder").before a0 Z = true := hw _ (List.mem_of_getElem? (i := 20) rfl)
theorem w21 {Z : State} {a0 : Array Value} (hw : ∀ d ∈ tables_1, d.before a0 Z = true) : (Jvm.Cond.fieldLink "java/lang/String" (9 : Nat) "java/lang/String" "value" "[B").before a0 Z = true := hw _ (List.mem_of_getElem? (i := 21) rfl)
theorem w22 {Z : State} {a0 : Array Value} (hw : ∀ d ∈ tables_1, d.before a0 Z = true) : (Jvm.Cond.fieldLink "java/lang/String" (15 : Nat) "java/lang/String" "coder" "B").before a0 Z = true := hw _ (List.mem_of_getElem? (i := 22) rfl)
theorem w23 {Z : State} {a0 : Array Value} (hw : ∀ d ∈ tables_1, d.before a0 Z = true) : (Jvm.Cond.methodLink "com/example/harborspread/harborspread/DecimalsIsTooLongPinLaw" (13 : Nat) ({ cls := "com/example/harborspread/harborspread/Decimals", name := "isTooLong", desc := "(Ljava/lang/String;)Z" } : Jvm.MethodName)).before a0 Z = true := hw _ (List.mem_of_getElem? (i := 23) rfl)
theorem w24 {Z : State} {a0 : Array Value} (hw : ∀ d ∈ tables_1, d.before a0 Z = true) : (Jvm.Cond.static ({ cls := "com/example/harborspread/harborspread/Decimals", name := "isTooLong", desc := "(Ljava/lang/String;)Z" } : Jvm.MethodName)).before a0 Z = true := hw _ (List.mem_of_getElem? (i := 24) rfl)
theorem w25 {Z : State} {a0 : Array Value} (hw : ∀ d ∈ tables_1, d.before a0 Z = true) : (Jvm.Cond.initialized "com/example/harborspread/harborspread/Decimals").before a0 Z = true := hw _ (List.mem_of_getElem? (i := 25) rfl)
theorem w26 {Z : State} {a0 : Array Value} (hw : ∀ d ∈ tables_1, d.before a0 Z = true) : (Jvm.Cond.code ({ cls := "com/example/harborspread/harborspread/Decimals", name := "isTooLong", desc := "(Ljava/lang/String;)Z" } : Jvm.MethodName) prog_21_method_3_code (1 : Nat) (Option.some Jvm.ClassFile.FieldType.boolean)).before a0 Z = true := hw _ (List.mem_of_getElem? (i := 26) rfl)
theorem w27 {Z : State} {a0 : Array Value} (hw : ∀ d ∈ tables_1, d.before a0 Z = true) : (Jvm.Cond.methodLink "com/example/harborspread/harborspread/Decimals" (33 : Nat) ({ cls := "java/lang/String", name := "indexOf", desc := "(I)I" } : Jvm.MethodName)).before a0 Z = true := hw _ (List.mem_of_getElem? (i := 27) rfl)
theorem w28 {Z : State} {a0 : Array Value} (hw : ∀ d ∈ tables_1, d.before a0 Z = true) : (Jvm.Cond.declares ({ cls := "java/lang/String", name := "indexOf", desc := "(I)I" } : Jvm.MethodName)).before a0 Z = true := hw _ (List.mem_of_getElem? (i := 28) rfl)
theorem w29 {Z : State} {a0 : Array Value} (hw : ∀ d ∈ tables_1, d.before a0 Z = true) : (Jvm.Cond.instanceMethod ({ cls := "java/lang/String", name := "indexOf", desc := "(I)I" } : Jvm.MethodName)).before a0 Z = true := hw _ (List.mem_of_getElem? (i := 29) rfl)
theorem w30 {Z : State} {a0 : Array Value} (hw : ∀ d ∈ tables_1, d.before a0 Z = true) : (Jvm.Cond.selects "java/lang/String" ({ cls := "java/lang/String", name := "indexOf", desc := "(I)I" } : Jvm.MethodName) ({ cls := "java/lang/String", name := "indexOf", desc := "(I)I" } : Jvm.MethodName)).before a0 Z = true := hw _ (List.mem_of_getElem? (i := 30) rfl)
theorem w31 {Z : State} {a0 : Array Value} (hw : ∀ d ∈ tables_1, d.before a0 Z = true) : (Jvm.Cond.code ({ cls := "java/lang/String", name := "indexOf", desc := "(I)I" } : Jvm.MethodName) jdk_42_method_79_code (2 : Nat) (Option.some Jvm.ClassFile.FieldType.int)).before a0 Z = true := hw _ (List.mem_of_getElem? (i := 31) rfl)
theorem w32 {Z : State} {a0 : Array Value} (hw : ∀ d ∈ tables_1, d.before a0 Z = true) : (Jvm.Cond.methodLink "java/lang/String" (633 : Nat) ({ cls := "java/lang/String", name := "indexOf", desc := "(II)I" } : Jvm.MethodName)).before a0 Z = true := hw _ (List.mem_of_getElem? (i := 32) rfl)
theorem w33 {Z : State} {a0 : Array Value} (hw : ∀ d ∈ tables_1, d.before a0 Z = true) : (Jvm.Cond.declares ({ cls := "java/lang/String", name := "indexOf", desc := "(II)I" } : Jvm.MethodName)).before a0 Z = true := hw _ (List.mem_of_getElem? (i := 33) rfl)
theorem w34 {Z : State} {a0 : Array Value} (hw : ∀ d ∈ tables_1, d.before a0 Z = true) : (Jvm.Cond.instanceMethod ({ cls := "java/lang/String", name := "indexOf", desc := "(II)I" } : Jvm.MethodName)).before a0 Z = true := hw _ (List.mem_of_getElem? (i := 34) rfl)
theorem w35 {Z : State} {a0 : Array Value} (hw : ∀ d ∈ tables_1, d.before a0 Z = true) : (Jvm.Cond.selects "java/lang/String" ({ cls := "java/lang/String", name := "indexOf", desc := "(II)I" } : Jvm.MethodName) ({ cls := "java/lang/String", name := "indexOf", desc := "(II)I" } : Jvm.MethodName)).before a0 Z = true := hw _ (List.mem_of_getElem? (i := 35) rfl)
theorem w36 {Z : State} {a0 : Array Value} (hw : ∀ d ∈ tables_1, d.before a0 Z = true) : (Jvm.Cond.code ({ cls := "java/lang/String", name := "indexOf", desc := "(II)I" } : Jvm.MethodName) jdk_42_method_80_code (3 : Nat) (Option.some Jvm.ClassFile.FieldType.int)).before a0 Z = true := hw _ (List.mem_of_getElem? (i := 36) rfl)
theorem w37 {Z : State} {a0 : Array Value} (hw : ∀ d ∈ tables_1, d.before a0 Z = true) : (Jvm.Cond.methodLink "java/lang/String" (492 : Nat) ({ cls := "java/lang/String", name := "isLatin1", desc := "()Z" } : Jvm.MethodName)).before a0 Z = true := hw _ (List.mem_of_getElem? (i := 37) rfl)
theorem w38 {Z : State} {a0 : Array Value} (hw : ∀ d ∈ tables_1, d.before a0 Z = true) : (Jvm.Cond.declares ({ cls := "java/lang/String", name := "isLatin1", desc := "()Z" } : Jvm.MethodName)).before a0 Z = true := hw _ (List.mem_of_getElem? (i := 38) rfl)
theorem w39 {Z : State} {a0 : Array Value} (hw : ∀ d ∈ tables_1, d.before a0 Z = true) : (Jvm.Cond.instanceMethod ({ cls := "java/lang/String", name := "isLatin1", desc := "()Z" } : Jvm.MethodName)).before a0 Z = true := hw _ (List.mem_of_getElem? (i := 39) rfl)
theorem w40 {Z : State} {a0 : Array Value} (hw : ∀ d ∈ tables_1, d.before a0 Z = true) : (Jvm.Cond.selects "java/lang/String" ({ cls := "java/lang/String", name := "isLatin1", desc := "()Z" } : Jvm.MethodName) ({ cls := "java/lang/String", name := "isLatin1", desc := "()Z" } : Jvm.MethodName)).before a0 Z = true := hw _ (List.mem_of_getElem? (i := 40) rfl)
theorem w41 {Z : State} {a0 : Array Value} (hw : ∀ d ∈ tables_1, d.before a0 Z = true) : (Jvm.Cond.code ({ cls := "java/lang/String", name := "isLatin1", desc := "()Z" } : Jvm.MethodName) jdk_42_method_154_code (1 : Nat) (Option.some Jvm.ClassFile.FieldType.boolean)).before a0 Z = true := hw _ (List.mem_of_getElem? (i := 41) rfl)
theorem w42 {Z : State} {a0 : Array Value} (hw : ∀ d ∈ tables_1, d.before a0 Z = true) : (Jvm.Cond.fieldLink "java/lang/String" (38 : Nat) "java/lang/String" "COMPACT_STRINGS" "Z").before a0 Z = true := hw _ (List.mem_of_getElem? (i := 42) rfl)
theorem w43 {Z : State} {a0 : Array Value} (hw : ∀ d ∈ tables_1, d.before a0 Z = true) : (Jvm.Cond.methodLink "java/lang/String" (505 : Nat) ({ cls := "java/lang/String", name := "length", desc := "()I" } : Jvm.MethodName)).before a0 Z = true := hw _ (List.mem_of_getElem? (i := 43) rfl)
theorem w44 {Z : State} {a0 : Array Value} (hw : ∀ d ∈ tables_1, d.before a0 Z = true) : (Jvm.Cond.declares ({ cls := "java/lang/String", name := "length", desc := "()I" } : Jvm.MethodName)).before a0 Z = true := hw _ (List.mem_of_getElem? (i := 44) rfl)
theorem w45 {Z : State} {a0 : Array Value} (hw : ∀ d ∈ tables_1, d.before a0 Z = true) : (Jvm.Cond.instanceMethod ({ cls := "java/lang/String", name := "length", desc := "()I" } : Jvm.MethodName)).before a0 Z = true := hw _ (List.mem_of_getElem? (i := 45) rfl)
theorem w46 {Z : State} {a0 : Array Value} (hw : ∀ d ∈ tables_1, d.before a0 Z = true) : (Jvm.Cond.selects "java/lang/String" ({ cls := "java/lang/String", name := "length", desc := "()I" } : Jvm.MethodName) ({ cls := "java/lang/String", name := "length", desc := "()I" } : Jvm.MethodName)).before a0 Z = true := hw _ (List.mem_of_getElem? (i := 46) rfl)
theorem w47 {Z : State} {a0 : Array Value} (hw : ∀ d ∈ tables_1, d.before a0 Z = true) : (Jvm.Cond.code ({ cls := "java/lang/String", name := "length", desc := "()I" } : Jvm.MethodName) jdk_42_method_54_code (1 : Nat) (Option.some Jvm.ClassFile.FieldType.int)).before a0 Z = true := hw _ (List.mem_of_getElem? (i := 47) rfl)
theorem w48 {Z : State} {a0 : Array Value} (hw : ∀ d ∈ tables_1, d.before a0 Z = true) : (Jvm.Cond.methodLink "java/lang/String" (335 : Nat) ({ cls := "java/lang/String", name := "coder", desc := "()B" } : Jvm.MethodName)).before a0 Z = true := hw _ (List.mem_of_getElem? (i := 48) rfl)
theorem w49 {Z : State} {a0 : Array Value} (hw : ∀ d ∈ tables_1, d.before a0 Z = true) : (Jvm.Cond.declares ({ cls := "java/lang/String", name := "coder", desc := "()B" } : Jvm.MethodName)).before a0 Z = true := hw _ (List.mem_of_getElem? (i := 49) rfl)
theorem w50 {Z : State} {a0 : Array Value} (hw : ∀ d ∈ tables_1, d.before a0 Z = true) : (Jvm.Cond.instanceMethod ({ cls := "java/lang/String", name := "coder", desc := "()B" } : Jvm.MethodName)).before a0 Z = true := hw _ (List.mem_of_getElem? (i := 50) rfl)
theorem w51 {Z : State} {a0 : Array Value} (hw : ∀ d ∈ tables_1, d.before a0 Z = true) : (Jvm.Cond.selects "java/lang/String" ({ cls := "java/lang/String", name := "coder", desc := "()B" } : Jvm.MethodName) ({ cls := "java/lang/String", name := "coder", desc := "()B" } : Jvm.MethodName)).before a0 Z = true := hw _ (List.mem_of_getElem? (i := 51) rfl)
theorem w52 {Z : State} {a0 : Array Value} (hw : ∀ d ∈ tables_1, d.before a0 Z = true) : (Jvm.Cond.code ({ cls := "java/lang/String", name := "coder", desc := "()B" } : Jvm.MethodName) jdk_42_method_152_code (1 : Nat) (Option.some Jvm.ClassFile.FieldType.byte)).before a0 Z = true := hw _ (List.mem_of_getElem? (i := 52) rfl)
theorem w53 {Z : State} {a0 : Array Value} (hw : ∀ d ∈ tables_1, d.before a0 Z = true) : (Jvm.Cond.methodLink "java/lang/String" (637 : Nat) ({ cls := "java/lang/StringLatin1", name := "indexOf", desc := "([BIII)I" } : Jvm.MethodName)).before a0 Z = true := hw _ (List.mem_of_getElem? (i := 53) rfl)
theorem w54 {Z : State} {a0 : Array Value} (hw : ∀ d ∈ tables_1, d.before a0 Z = true) : (Jvm.Cond.static ({ cls := "java/lang/StringLatin1", name := "indexOf", desc := "([BIII)I" } : Jvm.MethodName)).before a0 Z = true := hw _ (List.mem_of_getElem? (i := 54) rfl)
theorem w55 {Z : State} {a0 : Array Value} (hw : ∀ d ∈ tables_1, d.before a0 Z = true) : (Jvm.Cond.initialized "java/lang/StringLatin1").before a0 Z = true := hw _ (List.mem_of_getElem? (i := 55) rfl)
theorem w56 {Z : State} {a0 : Array Value} (hw : ∀ d ∈ tables_1, d.before a0 Z = true) : (Jvm.Cond.code ({ cls := "java/lang/StringLatin1", name := "indexOf", desc := "([BIII)I" } : Jvm.MethodName) jdk_43_method_22_code (4 : Nat) (Option.some Jvm.ClassFile.FieldType.int)).before a0 Z = true := hw _ (List.mem_of_getElem? (i := 56) rfl)
theorem w57 {Z : State} {a0 : Array Value} (hw : ∀ d ∈ tables_1, d.before a0 Z = true) : (Jvm.Cond.methodLink "java/lang/StringLatin1" (88 : Nat) ({ cls := "java/lang/StringLatin1", name := "canEncode", desc := "(I)Z" } : Jvm.MethodName)).before a0 Z = true := hw _ (List.mem_of_getElem? (i := 57) rfl)
theorem w58 {Z : State} {a0 : Array Value} (hw : ∀ d ∈ tables_1, d.before a0 Z = true) : (Jvm.Cond.static ({ cls := "java/lang/StringLatin1", name := "canEncode", desc := "(I)Z" } : Jvm.MethodName)).before a0 Z = true := hw _ (List.mem_of_getElem? (i := 58) rfl)
theorem w59 {Z : State} {a0 : Array Value} (hw : ∀ d ∈ tables_1, d.before a0 Z = true) : (Jvm.Cond.code ({ cls := "java/lang/StringLatin1", name := "canEncode", desc := "(I)Z" } : Jvm.MethodName) jdk_43_method_4_code (1 : Nat) (Option.some Jvm.ClassFile.FieldType.boolean)).before a0 Z = true := hw _ (List.mem_of_getElem? (i := 59) rfl)
theorem w60 {Z : State} {a0 : Array Value} (hw : ∀ d ∈ tables_1, d.before a0 Z = true) : (Jvm.Cond.methodLink "java/lang/StringLatin1" (92 : Nat) ({ cls := "java/lang/Math", name := "max", desc := "(II)I" } : Jvm.MethodName)).before a0 Z = true := hw _ (List.mem_of_getElem? (i := 60) rfl)
theorem w61 {Z : State} {a0 : Array Value} (hw : ∀ d ∈ tables_1, d.before a0 Z = true) : (Jvm.Cond.static ({ cls := "java/lang/Math", name := "max", desc := "(II)I" } : Jvm.MethodName)).before a0 Z = true := hw _ (List.mem_of_getElem? (i := 61) rfl)
theorem w62 {Z : State} {a0 : Array Value} (hw : ∀ d ∈ tables_1, d.before a0 Z = true) : (Jvm.Cond.initialized "java/lang/Math").before a0 Z = true := hw _ (List.mem_of_getElem? (i := 62) rfl)
theorem w63 {Z : State} {a0 : Array Value} (hw : ∀ d ∈ tables_1, d.before a0 Z = true) : (Jvm.Cond.code ({ cls := "java/lang/Math", name := "max", desc := "(II)I" } : Jvm.MethodName) jdk_29_method_65_code (2 : Nat) (Option.some Jvm.ClassFile.FieldType.int)).before a0 Z = true := hw _ (List.mem_of_getElem? (i := 63) rfl)
theorem w64 {Z : State} {a0 : Array Value} (hw : ∀ d ∈ tables_1, d.before a0 Z = true) : (Jvm.Cond.methodLink "java/lang/StringLatin1" (38 : Nat) ({ cls := "java/lang/Math", name := "min", desc := "(II)I" } : Jvm.MethodName)).before a0 Z = true := hw _ (List.mem_of_getElem? (i := 64) rfl)
theorem w65 {Z : State} {a0 : Array Value} (hw : ∀ d ∈ tables_1, d.before a0 Z = true) : (Jvm.Cond.static ({ cls := "java/lang/Math", name := "min", desc := "(II)I" } : Jvm.MethodName)).before a0 Z = true := hw _ (List.mem_of_getElem? (i := 65) rfl)
theorem w66 {Z : State} {a0 : Array Value} (hw : ∀ d ∈ tables_1, d.before a0 Z = true) : (Jvm.Cond.code ({ cls := "java/lang/Math", name := "min", desc := "(II)I" } : Jvm.MethodName) jdk_29_method_69_code (2 : Nat) (Option.some Jvm.ClassFile.FieldType.int)).before a0 Z = true := hw _ (List.mem_of_getElem? (i := 66) rfl)
theorem w67 {Z : State} {a0 : Array Value} (hw : ∀ d ∈ tables_1, d.before a0 Z = true) : (Jvm.Cond.methodLink "java/lang/String" (177 : Nat) ({ cls := "java/lang/StringUTF16", name := "compress", desc := "([CII)[B" } : Jvm.MethodName)).before a0 Z = true := hw _ (List.mem_of_getElem? (i := 67) rfl)
theorem w68 {Z : State} {a0 : Array Value} (hw : ∀ d ∈ tables_1, d.before a0 Z = true) : (Jvm.Cond.static ({ cls := "java/lang/StringUTF16", name := "compress", desc := "([CII)[B" } : Jvm.MethodName)).before a0 Z = true := hw _ (List.mem_of_getElem? (i := 68) rfl)
theorem w69 {Z : State} {a0 : Array Value} (hw : ∀ d ∈ tables_1, d.before a0 Z = true) : (Jvm.Cond.initialized "java/lang/StringUTF16").before a0 Z = true := hw _ (List.mem_of_getElem? (i := 69) rfl)
theorem w70 {Z : State} {a0 : Array Value} (hw : ∀ d ∈ tables_1, d.before a0 Z = true) : (Jvm.Cond.code ({ cls := "java/lang/StringUTF16", name := "compress", desc := "([CII)[B" } : Jvm.MethodName) jdk_52_method_16_code (6 : Nat) (Option.some (Jvm.ClassFile.FieldType.array Jvm.ClassFile.FieldType.byte))).before a0 Z = true := hw _ (List.mem_of_getElem? (i := 70) rfl)
theorem w71 {Z : State} {a0 : Array Value} (hw : ∀ d ∈ tables_1, d.before a0 Z = true) : (Jvm.Cond.methodLink "java/lang/StringUTF16" (115 : Nat) ({ cls := "java/lang/StringUTF16", name := "compress", desc := "([CI[BII)I" } : Jvm.MethodName)).before a0 Z = true := hw _ (List.mem_of_getElem? (i := 71) rfl)
theorem w72 {Z : State} {a0 : Array Value} (hw : ∀ d ∈ tables_1, d.before a0 Z = true) : (Jvm.Cond.static ({ cls := "java/lang/StringUTF16", name := "compress", desc := "([CI[BII)I" } : Jvm.MethodName)).before a0 Z = true := hw _ (List.mem_of_getElem? (i := 72) rfl)
theorem w73 {Z : State} {a0 : Array Value} (hw : ∀ d ∈ tables_1, d.before a0 Z = true) : (Jvm.Cond.code ({ cls := "java/lang/StringUTF16", name := "compress", desc := "([CI[BII)I" } : Jvm.MethodName) jdk_52_method_21_code (7 : Nat) (Option.some Jvm.ClassFile.FieldType.int)).before a0 Z = true := hw _ (List.mem_of_getElem? (i := 73) rfl)
theorem w74 {Z : State} {a0 : Array Value} (hw : ∀ d ∈ tables_1, d.before a0 Z = true) : (Jvm.Cond.methodLink "java/lang/String" (47 : Nat) ({ cls := "java/lang/StringUTF16", name := "coderFromArrayLen", desc := "([BI)B" } : Jvm.MethodName)).before a0 Z = true := hw _ (List.mem_of_getElem? (i := 74) rfl)
theorem w75 {Z : State} {a0 : Array Value} (hw : ∀ d ∈ tables_1, d.before a0 Z = true) : (Jvm.Cond.static ({ cls := "java/lang/StringUTF16", name := "coderFromArrayLen", desc := "([BI)B" } : Jvm.MethodName)).before a0 Z = true := hw _ (List.mem_of_getElem? (i := 75) rfl)
theorem w76 {Z : State} {a0 : Array Value} (hw : ∀ d ∈ tables_1, d.before a0 Z = true) : (Jvm.Cond.code ({ cls := "java/lang/StringUTF16", name := "coderFromArrayLen", desc := "([BI)B" } : Jvm.MethodName) jdk_52_method_15_code (2 : Nat) (Option.some Jvm.ClassFile.FieldType.byte)).before a0 Z = true := hw _ (List.mem_of_getElem? (i := 76) rfl)
theorem w77 {Z : State} {a0 : Array Value} (hw : ∀ d ∈ tables_1, d.before a0 Z = true) : (Jvm.Cond.methodLink "java/lang/StringLatin1" (95 : Nat) ({ cls := "java/lang/StringLatin1", name := "indexOfChar", desc := "([BIII)I" } : Jvm.MethodName)).before a0 Z = true := hw _ (List.mem_of_getElem? (i := 77) rfl)
theorem w78 {Z : State} {a0 : Array Value} (hw : ∀ d ∈ tables_1, d.before a0 Z = true) : (Jvm.Cond.static ({ cls := "java/lang/StringLatin1", name := "indexOfChar", desc := "([BIII)I" } : Jvm.MethodName)).before a0 Z = true := hw _ (List.mem_of_getElem? (i := 78) rfl)
theorem w79 {Z : State} {a0 : Array Value} (hw : ∀ d ∈ tables_1, d.before a0 Z = true) : (Jvm.Cond.code ({ cls := "java/lang/StringLatin1", name := "indexOfChar", desc := "([BIII)I" } : Jvm.MethodName) jdk_43_method_23_code (6 : Nat) (Option.some Jvm.ClassFile.FieldType.int)).before a0 Z = true := hw _ (List.mem_of_getElem? (i := 79) rfl)
def own_EL : List (String × Nat) := [("java/lang/String", 7)]
theorem own_hEL {Z : State} {a0 : Array Value} (hw : ∀ d ∈ tables_1, d.before a0 Z = true) : EW Z a0 own_EL := (EW.cons (w15 hw) (by decide) EW.nil)
theorem own_wS {Z : State} {a0 : Array Value} (hw : ∀ d ∈ tables_1, d.before a0 Z = true) : ∀ a ∈ Bundle.stringAtoms, a.before a0 Z = true := by
  intro a ha
  simp only [Bundle.stringAtoms, List.mem_cons, List.not_mem_nil, or_false] at ha
  rcases ha with rfl | rfl | rfl | rfl | rfl | rfl | rfl
  · exact (w4 hw)
  · exact (w3 hw)
  · exact (w16 hw)
  · exact (w17 hw)
  · exact (w18 hw)
  · exact (w19 hw)
  · exact (w20 hw)
set_option maxRecDepth 65536 in
set_option maxHeartbeats 40000000 in
theorem b15 (l : Launch) (Z : State) (a0 : Array Value) (hw : ∀ d ∈ tables_1, d.before a0 Z = true) (a1 : Addr) (kc : ClassId) (dc : Value) (a2 : Addr) (kb : ClassId) (x0 : Int32) (h0 : Heap) (n0 : Nat) (O0 : Old Z n0 h0) (A_0 : Arv Z h0 a1 kc .char (1 : Int32) [(.int x0)] dc) (A_1 : Arv Z h0 a2 kb .byte (1 : Int32) [(.int (0 : Int32))] (.int (0 : Int32))) (ne_2 : a1 ≠ a2) (g_3 : n0 ≤ a2) (r_4 : (¬ (255 : Int32) < x0)) :
    Con l Z (⟨"java/lang/StringUTF16", "compress", "([CI[BII)I"⟩ : MethodName) jdk_52_method_21_code 7 (some .int) ({ frames := 0, cells := 0, slots := 0, locals := 0 } : Room) #[(.ref a1), (.int (0 : Int32)), (.ref a2), (.int (0 : Int32)), (.int (1 : Int32))] h0 (fun v h L => v = some (.int (1 : Int32)) ∧ Fr n0 L ∧ Keep h0 h [a2] ∧ Arv Z h a2 kb .byte (1 : Int32) [(.int x0.toInt8.toInt32)] (.int (0 : Int32))) := by
  refine Con.of (plainFor_of_name pn_0) ?_
  intro p e s m below meth c s₁ hx hby hml hZ hown hnm hret hlk X0 e0
  have N0 := Fr.nil n0
  refine go_cast (g' := mkF m 0 #[.val (.ref a1), .val (.int (0 : Int32)), .val (.ref a2), .val (.int (0 : Int32)), .val (.int (1 : Int32)), .unset, .unset] []) ?_ (by first | (simp [entryFrame, mkF, argsToLocals, Value.category]; done) | rfl)
  refine go_iconst (q := 1) X0 hx (hb hby d15_0) (v := (0 : Int32)) (by decide) rfl ?_
  refine go_istore (q := 3) X0 hx (hb hby d15_1) (l' := #[.val (.ref a1), .val (.int (0 : Int32)), .val (.ref a2), .val (.int (0 : Int32)), .val (.int (1 : Int32)), .val (.int (0 : Int32)), .unset]) rfl rfl ?_
  refine go_iload (q := 5) X0 hx (hb hby d15_3) (v := (0 : Int32)) rfl rfl ?_
  refine go_iload (q := 7) X0 hx (hb hby d15_5) (v := (1 : Int32)) rfl rfl ?_
  refine go_icmpN (q := 10) X0 hx (hb hby d15_7) (XT.ii_ge_f (by decide)) rfl ?_
  refine go_aload_n (q := 11) X0 hx (hb hby d15_10) (v := (.ref a1)) rfl rfl rfl ?_
  refine go_iload_n (q := 12) X0 hx (hb hby d15_11) (v := (0 : Int32)) rfl rfl ?_
  refine go_caload (q := 13) (j := (0 : Int32)) (v := (.int x0)) X0 hx hZ e0 A_0 (by decide) rfl (hb hby d15_12) rfl ?_
  refine go_istore (q := 15) X0 hx (hb hby d15_13) (l' := #[.val (.ref a1), .val (.int (0 : Int32)), .val (.ref a2), .val (.int (0 : Int32)), .val (.int (1 : Int32)), .val (.int (0 : Int32)), .val (.int x0)]) rfl rfl ?_
  refine go_iload (q := 17) X0 hx (hb hby d15_15) (v := x0) rfl rfl ?_
  refine go_sipush (q := 20) X0 hx (hb hby d15_17) (v := (255 : Int32)) (by decide) rfl ?_
  refine go_icmpY (q := 26) X0 hx (hb hby d15_20) (XT.ii_le_t r_4) (by decide) (by decide) ?_
  refine go_aload_n (q := 27) X0 hx (hb hby d15_26) (v := (.ref a2)) rfl rfl rfl ?_
  refine go_iload_n (q := 28) X0 hx (hb hby d15_27) (v := (0 : Int32)) rfl rfl ?_
  refine go_iload (q := 30) X0 hx (hb hby d15_28) (v := x0) rfl rfl ?_
  refine go_i2b (q := 31) X0 hx (hb hby d15_30) (v := x0.toInt8.toInt32) rfl rfl ?_
  refine go_bastore (q := 32) (j := (0 : Int32)) (i := 0) (vs' := [(.int x0.toInt8.toInt32)]) X0 hx hZ e0 A_1 (by decide) (by decide) (show (0 : Nat) < 1 by decide) (own_narb _) rfl (hb hby d15_31) rfl ?_
  intro T1 h1 X1 e1 W1 A1
  have N1 := Fr.snoc X1 N0 g_3
  refine go_iinc (q := 35) X1 hx (hb hby d15_32) (x := (0 : Int32)) (v := (1 : Int32)) rfl (by first | rfl | decide) (l' := #[.val (.ref a1), .val (.int (1 : Int32)), .val (.ref a2), .val (.int (0 : Int32)), .val (.int (1 : Int32)), .val (.int (0 : Int32)), .val (.int x0)]) rfl rfl ?_
  refine go_iinc (q := 38) X1 hx (hb hby d15_35) (x := (0 : Int32)) (v := (1 : Int32)) rfl (by first | rfl | decide) (l' := #[.val (.ref a1), .val (.int (1 : Int32)), .val (.ref a2), .val (.int (1 : Int32)), .val (.int (1 : Int32)), .val (.int (0 : Int32)), .val (.int x0)]) rfl rfl ?_
  refine go_iinc (q := 41) X1 hx (hb hby d15_38) (x := (0 : Int32)) (v := (1 : Int32)) rfl (by first | rfl | decide) (l' := #[.val (.ref a1), .val (.int (1 : Int32)), .val (.ref a2), .val (.int (1 : Int32)), .val (.int (1 : Int32)), .val (.int (1 : Int32)), .val (.int x0)]) rfl rfl ?_
  refine go_goto (q := 3) X1 hx (hb hby d15_41) (by decide) (by decide) ?_
  refine go_iload (q := 5) X1 hx (hb hby d15_3) (v := (1 : Int32)) rfl rfl ?_
  refine go_iload (q := 7) X1 hx (hb hby d15_5) (v := (1 : Int32)) rfl rfl ?_
  refine go_icmpY (q := 44) X1 hx (hb hby d15_7) (XT.ii_ge_t (by decide)) (by decide) (by decide) ?_
  refine go_iload (q := 46) X1 hx (hb hby d15_44) (v := (1 : Int32)) rfl rfl ?_
  refine go_retI X1 hx hret hlk e1 (hb hby d15_46) (by simp) rfl (by decide) (by decide) ?_
  exact ⟨rfl, N1, ((Keep.refl h0 [a2]).wr W1 (Or.inl (List.mem_of_getElem? (i := 0) rfl))), A1⟩
set_option maxRecDepth 65536 in
set_option maxHeartbeats 40000000 in
theorem b14 (l : Launch) (Z : State) (a0 : Array Value) (hw : ∀ d ∈ tables_1, d.before a0 Z = true) (a1 : Addr) (kc : ClassId) (dc : Value) (x0 : Int32) (h0 : Heap) (n0 : Nat) (O0 : Old Z n0 h0) (A_0 : Arv Z h0 a1 kc .char (1 : Int32) [(.int x0)] dc) (r_1 : (¬ (255 : Int32) < x0)) :
    Con l Z (⟨"java/lang/StringUTF16", "compress", "([CII)[B"⟩ : MethodName) jdk_52_method_16_code 6 (some (.array .byte)) ({ frames := 1, cells := 1, slots := 1, locals := 18 } : Room) #[(.ref a1), (.int (0 : Int32)), (.int (1 : Int32))] h0 (fun v h L => ∃ (r : Addr) (kb : ClassId), v = some (.ref r) ∧ Fr n0 L ∧ Keep h0 h [] ∧ h0.size ≤ r ∧ Arv Z h r kb .byte (1 : Int32) [(.int x0.toInt8.toInt32)] (.int (0 : Int32))) := by
  refine Con.of (plainFor_of_name pn_0) ?_
  intro p e s m below meth c s₁ hx hby hml hZ hown hnm hret hlk X0 e0
  have N0 := Fr.nil n0
  refine go_cast (g' := mkF m 0 #[.val (.ref a1), .val (.int (0 : Int32)), .val (.int (1 : Int32)), .unset, .unset, .unset] []) ?_ (by first | (simp [entryFrame, mkF, argsToLocals, Value.category]; done) | rfl)
  refine go_iload_n (q := 1) X0 hx (hb hby d14_0) (v := (1 : Int32)) rfl rfl ?_
  refine go_newP (q := 3) (ty := .byte) (cap := 1) (vs := [(.int (0 : Int32))]) (dv := (.int (0 : Int32))) X0 hx hZ rfl (w16 hw) e0 (hb hby d14_1) (by decide) (by decide) (by decide) (by decide) (by decide) rfl rfl rfl ?_
  intro T1 h1 ob1 k1 g1 X1 e1 E1 A1
  have fr1 : n0 ≤ ob1 := own_ge O0 g1
  have sn1 : h0.size ≤ ob1 := g1 ▸ (Nat.le_refl _)
  have ne_a1_ob1 : a1 ≠ ob1 := own_lt g1 A_0.lt
  refine go_astore_n (q := 4) X1 hx (hb hby d14_3) rfl (l' := #[.val (.ref a1), .val (.int (0 : Int32)), .val (.int (1 : Int32)), .val (.ref ob1), .unset, .unset]) rfl rfl ?_
  refine go_aload_n (q := 5) X1 hx (hb hby d14_4) (v := (.ref a1)) rfl rfl rfl ?_
  refine go_iload_n (q := 6) X1 hx (hb hby d14_5) (v := (0 : Int32)) rfl rfl ?_
  refine go_aload_n (q := 7) X1 hx (hb hby d14_6) (v := (.ref ob1)) rfl rfl rfl ?_
  refine go_iconst (q := 8) X1 hx (hb hby d14_7) (v := (0 : Int32)) (by decide) rfl ?_
  refine go_iload_n (q := 9) X1 hx (hb hby d14_8) (v := (1 : Int32)) rfl rfl ?_
  have f2 : Arv Z h1 a1 kc .char (1 : Int32) [(.int x0)] dc := (A_0.ext E1)
  have O3 : Old Z n0 h1 := (O0.ext E1)
  refine go_static (q := 12) X1 hx hZ hown (y := (⟨"java/lang/StringUTF16", "compress", "([CI[BII)I"⟩ : MethodName)) (w71 hw) (w72 hw) (w69 hw) (w73 hw) (by decide) e1 (b15 l Z a0 hw a1 kc dc ob1 k1 x0 h1 n0 O3 f2 A1 ne_a1_ob1 fr1 r_1) (argsL := [(.ref a1), (.int (0 : Int32)), (.ref ob1), (.int (0 : Int32)), (.int (1 : Int32))]) (rest := []) rfl (lenOf pd_0 rfl) rfl (by rw [hml]; rfl) (W := 0) (Nat.le_of_eq rfl) (hb hby d14_9) (by decide) (by decide) (by decide) (by decide) rfl ?_
  rintro T4 h4 _ L4 X4 e4 ⟨rfl, M4, K4, p4_0⟩
  have N4 := Fr.app N0 M4
  refine go_istore (q := 14) X4 hx (hb hby d14_12) (l' := #[.val (.ref a1), .val (.int (0 : Int32)), .val (.int (1 : Int32)), .val (.ref ob1), .val (.int (1 : Int32)), .unset]) rfl rfl ?_
  refine go_iload (q := 16) X4 hx (hb hby d14_14) (v := (1 : Int32)) rfl rfl ?_
  refine go_iload_n (q := 17) X4 hx (hb hby d14_16) (v := (1 : Int32)) rfl rfl ?_
  refine go_icmpY (q := 57) X4 hx (hb hby d14_17) (XT.ii_eq_t (by decide)) (by decide) (by decide) ?_
  refine go_aload_n (q := 58) X4 hx (hb hby d14_57) (v := (.ref ob1)) rfl rfl rfl ?_
  refine go_retA X4 hx hret hlk e4 (hb hby d14_58) rfl rfl rfl (by decide) (by decide) ?_
  exact ⟨ob1, k1, rfl, N4, (((Keep.refl h0 []).ext E1).trans K4 (allS (P := fun x => x ∈ [] ∨ h0.size ≤ x) (Or.inr sn1) all0)), sn1, p4_0⟩
set_option maxRecDepth 65536 in
set_option maxHeartbeats 40000000 in
theorem b16 (l : Launch) (Z : State) (a0 : Array Value) (hw : ∀ d ∈ tables_1, d.before a0 Z = true) (a1 : Addr) (kb : ClassId) (vs : List Value) (h0 : Heap) (n0 : Nat) (O0 : Old Z n0 h0) (A_0 : Arv Z h0 a1 kb .byte (1 : Int32) vs (.int (0 : Int32))) :
    Con l Z (⟨"java/lang/StringUTF16", "coderFromArrayLen", "([BI)B"⟩ : MethodName) jdk_52_method_15_code 2 (some .byte) ({ frames := 0, cells := 0, slots := 0, locals := 0 } : Room) #[(.ref a1), (.int (1 : Int32))] h0 (fun v h L => v = some (.int (0 : Int32)) ∧ Fr n0 L ∧ Keep h0 h []) := by
  refine Con.of (plainFor_of_name pn_0) ?_
  intro p e s m below meth c s₁ hx hby hml hZ hown hnm hret hlk X0 e0
  have N0 := Fr.nil n0
  refine go_cast (g' := mkF m 0 #[.val (.ref a1), .val (.int (1 : Int32))] []) ?_ (by first | (simp [entryFrame, mkF, argsToLocals, Value.category]; done) | rfl)
  refine go_iload_n (q := 1) X0 hx (hb hby d16_0) (v := (1 : Int32)) rfl rfl ?_
  refine go_aload_n (q := 2) X0 hx (hb hby d16_1) (v := (.ref a1)) rfl rfl rfl ?_
  refine go_alen (q := 3) X0 hx hZ e0 A_0 (hb hby d16_2) rfl ?_
  refine go_isub (q := 4) X0 hx (hb hby d16_3) (v := (0 : Int32)) (by decide) rfl ?_
  refine go_bipush (q := 6) X0 hx (hb hby d16_4) (v := (31 : Int32)) (by decide) rfl ?_
  refine go_iushr (q := 7) X0 hx (hb hby d16_6) (v := (0 : Int32)) (by decide) rfl ?_
  refine go_i2b (q := 8) X0 hx (hb hby d16_7) (v := (0 : Int32)) (by decide) rfl ?_
  refine go_retI X0 hx hret hlk e0 (hb hby d16_8) (by simp) (by decide) (by decide) (by decide) ?_
  exact ⟨rfl, N0, (Keep.refl h0 [])⟩
set_option maxRecDepth 65536 in
set_option maxHeartbeats 40000000 in
theorem b2 (l : Launch) (Z : State) (a0 : Array Value) (hw : ∀ d ∈ tables_1, d.before a0 Z = true) (a1 : Addr) (a2 : Addr) (u1 : Value) (u2 : Value) (kc : ClassId) (dc : Value) (zc : Int32) (x0 : Int32) (h0 : Heap) (n0 : Nat) (O0 : Old Z n0 h0) (E_0 : Exa Z h0 a1 "java/lang/String") (F_1 : Fld Z h0 a1 "java/lang/String" "value" "[B" u1) (F_2 : Fld Z h0 a1 "java/lang/String" "coder" "B" u2) (g_3 : n0 ≤ a1) (A_4 : Arv Z h0 a2 kc .char (1 : Int32) [(.int x0)] dc) (S_5 : Sta Z Z.heap "java/lang/String" "COMPACT_STRINGS" "Z" (.int zc)) (r_6 : (¬ zc = 0)) (r_7 : (¬ (255 : Int32) < x0)) :
    Con l Z (⟨"java/lang/String", "<init>", "([CIILjava/lang/Void;)V"⟩ : MethodName) jdk_42_method_149_code 6 none ({ frames := 2, cells := 1, slots := 1, locals := 35 } : Room) #[(.ref a1), (.ref a2), (.int (0 : Int32)), (.int (1 : Int32)), .null] h0 (fun v h L => ∃ (r : Addr) (kb : ClassId), v = none ∧ Fr n0 L ∧ Keep h0 h [a1] ∧ h0.size ≤ r ∧ Exa Z h a1 "java/lang/String" ∧ Fld Z h a1 "java/lang/String" "coder" "B" (.int (0 : Int32)) ∧ Fld Z h a1 "java/lang/String" "value" "[B" (.ref r) ∧ Arv Z h r kb .byte (1 : Int32) [(.int x0.toInt8.toInt32)] (.int (0 : Int32))) := by
  refine Con.of (plainFor_of_name pn_1) ?_
  intro p e s m below meth c s₁ hx hby hml hZ hown hnm hret hlk X0 e0
  have N0 := Fr.nil n0
  refine go_cast (g' := mkF m 0 #[.val (.ref a1), .val (.ref a2), .val (.int (0 : Int32)), .val (.int (1 : Int32)), .val .null, .unset] []) ?_ (by first | (simp [entryFrame, mkF, argsToLocals, Value.category]; done) | rfl)
  refine go_aload_n (q := 1) X0 hx (hb hby d2_0) (v := (.ref a1)) rfl rfl rfl ?_
  refine go_initO (q := 4) (W := 0) X0 hx hZ hown (w12 hw) (w13 hw) (w14 hw) e0 (by rw [hml]; rfl) (hb hby d2_1) (by decide) (Nat.le_of_eq rfl) (by decide) rfl ?_
  intro T1 X1 e1
  refine go_iload_n (q := 5) X1 hx (hb hby d2_4) (v := (1 : Int32)) rfl rfl ?_
  refine go_ifY (q := 27) X1 hx (hb hby d2_5) (XT.i0_ne_t (by decide)) (by decide) (by decide) ?_
  refine go_getS (q := 30) (host := "") X1 hx hZ hown (Or.inl (w42 hw)) Via.refl e1 (Sta.ext O0.2 S_5) (hb hby d2_27) rfl ?_
  intro T2 X2 e2
  refine go_ifN (q := 33) X2 hx (hb hby d2_30) (XT.i0_eq_f r_6) rfl ?_
  refine go_aload_n (q := 34) X2 hx (hb hby d2_33) (v := (.ref a2)) rfl rfl rfl ?_
  refine go_iload_n (q := 35) X2 hx (hb hby d2_34) (v := (0 : Int32)) rfl rfl ?_
  refine go_iload_n (q := 36) X2 hx (hb hby d2_35) (v := (1 : Int32)) rfl rfl ?_
  refine go_static (q := 39) X2 hx hZ hown (y := (⟨"java/lang/StringUTF16", "compress", "([CII)[B"⟩ : MethodName)) (w67 hw) (w68 hw) (w69 hw) (w70 hw) (by decide) e2 (b14 l Z a0 hw a2 kc dc x0 h0 n0 O0 A_4 r_7) (argsL := [(.ref a2), (.int (0 : Int32)), (.int (1 : Int32))]) (rest := []) rfl (lenOf pd_1 rfl) rfl (by rw [hml]; rfl) (W := 0) (Nat.le_of_eq rfl) (hb hby d2_36) (by decide) (by decide) (by decide) (by decide) rfl ?_
  rintro T3 h3 _ L3 X3 e3 ⟨r_3, kb_3, rfl, M3, K3, p3_0, p3_1⟩
  have N3 := Fr.app N0 M3
  have fr_r_3 : n0 ≤ r_3 := Nat.le_trans (own_le O0) p3_0
  have sn_r_3 : h0.size ≤ r_3 := Nat.le_trans (Nat.le_refl _) p3_0
  have ne_a1_r_3 : a1 ≠ r_3 := own_ltg p3_0 F_2.lt
  have ne_a2_r_3 : a2 ≠ r_3 := own_ltg p3_0 A_4.lt
  refine go_astore (q := 41) X3 hx (hb hby d2_39) rfl (l' := #[.val (.ref a1), .val (.ref a2), .val (.int (0 : Int32)), .val (.int (1 : Int32)), .val .null, .val (.ref r_3)]) rfl rfl ?_
  refine go_aload_n (q := 42) X3 hx (hb hby d2_41) (v := (.ref a1)) rfl rfl rfl ?_
  refine go_aload (q := 44) X3 hx (hb hby d2_42) (v := (.ref r_3)) rfl rfl rfl ?_
  refine go_iload_n (q := 45) X3 hx (hb hby d2_44) (v := (1 : Int32)) rfl rfl ?_
  have O4 : Old Z n0 h3 := (O0.keep K3 all0)
  refine go_static (q := 48) X3 hx hZ hown (y := (⟨"java/lang/StringUTF16", "coderFromArrayLen", "([BI)B"⟩ : MethodName)) (w74 hw) (w75 hw) (w69 hw) (w76 hw) (by decide) e3 (b16 l Z a0 hw r_3 kb_3 [(.int x0.toInt8.toInt32)] h3 n0 O4 p3_1) (argsL := [(.ref r_3), (.int (1 : Int32))]) (rest := [(.ref a1)]) rfl (lenOf pd_2 rfl) rfl (by rw [hml]; rfl) (W := 1) (Nat.le_of_eq rfl) (hb hby d2_45) (by decide) (by decide) (by decide) (by decide) rfl ?_
  rintro T5 h5 _ L5 X5 e5 ⟨rfl, M5, K5⟩
  have N5 := Fr.app N3 M5
  have f6 : Exa Z h5 a1 "java/lang/String" := ((E_0.keep K3).keep K5)
  have f7 : Fld Z h5 a1 "java/lang/String" "coder" "B" u2 := ((F_2.keep K3 nin0).keep K5 nin0)
  refine go_putF (q := 51) (host := "") X5 hx hZ hown (Or.inl (w22 hw)) Via.refl e5 f7 f6 (Or.inr ⟨(w18 hw), rfl, hnm⟩) (w3 hw) (ty := .byte) (by decide) (by decide) (by decide) (hb hby d2_48) rfl ?_
  intro T8 h8 X8 e8 W8
  have N8 := Fr.snoc X8 N5 g_3
  have F8 : Fld Z h8 a1 "java/lang/String" "coder" "B" (.int (0 : Int32)) := f7.same W8
  refine go_aload_n (q := 52) X8 hx (hb hby d2_51) (v := (.ref a1)) rfl rfl rfl ?_
  refine go_aload (q := 54) X8 hx (hb hby d2_52) (v := (.ref r_3)) rfl rfl rfl ?_
  have f9 : Exa Z h8 a1 "java/lang/String" := (f6.wr W8)
  have f10 : Fld Z h8 a1 "java/lang/String" "value" "[B" u1 := (((F_1.keep K3 nin0).keep K5 nin0).other W8 (Or.inr (slot_ne (Or.inr (w17 hw)) (Or.inr (w18 hw)) (by decide) (t := (.array .byte)) (t' := .byte) (by decide) (by decide))))
  refine go_putF (q := 57) (host := "") X8 hx hZ hown (Or.inl (w21 hw)) Via.refl e8 f10 f9 (Or.inr ⟨(w17 hw), rfl, hnm⟩) (w3 hw) (ty := (.array .byte)) (by decide) rfl rfl (hb hby d2_54) rfl ?_
  intro T11 h11 X11 e11 W11
  have N11 := Fr.snoc X11 N8 g_3
  have F11 : Fld Z h11 a1 "java/lang/String" "value" "[B" (.ref r_3) := f10.same W11
  have f12 : Exa Z h11 a1 "java/lang/String" := (f9.wr W11)
  have f13 : Fld Z h11 a1 "java/lang/String" "coder" "B" (.int (0 : Int32)) := (F8.other W11 (Or.inr (slot_ne (Or.inr (w18 hw)) (Or.inr (w17 hw)) (by decide) (t := .byte) (t' := (.array .byte)) (by decide) (by decide))))
  have f14 : Arv Z h11 r_3 kb_3 .byte (1 : Int32) [(.int x0.toInt8.toInt32)] (.int (0 : Int32)) := (((p3_1.keep K5 nin0).other W8 (Ne.symm ne_a1_r_3)).other W11 (Ne.symm ne_a1_r_3))
  refine go_ret0 X11 hx hret hlk e11 (hb hby d2_57) (by decide) (by decide) ?_
  exact ⟨r_3, kb_3, rfl, N11, (((((Keep.refl h0 [a1]).trans K3 all0).trans K5 all0).wr W8 (Or.inl (List.mem_of_getElem? (i := 0) rfl))).wr W11 (Or.inl (List.mem_of_getElem? (i := 0) rfl))), sn_r_3, f12, f13, F11, f14⟩
set_option maxRecDepth 65536 in
set_option maxHeartbeats 40000000 in
theorem b1 (l : Launch) (Z : State) (a0 : Array Value) (hw : ∀ d ∈ tables_1, d.before a0 Z = true) (a1 : Addr) (a2 : Addr) (u1 : Value) (u2 : Value) (kc : ClassId) (dc : Value) (zc : Int32) (x0 : Int32) (h0 : Heap) (n0 : Nat) (O0 : Old Z n0 h0) (E_0 : Exa Z h0 a1 "java/lang/String") (F_1 : Fld Z h0 a1 "java/lang/String" "value" "[B" u1) (F_2 : Fld Z h0 a1 "java/lang/String" "coder" "B" u2) (g_3 : n0 ≤ a1) (A_4 : Arv Z h0 a2 kc .char (1 : Int32) [(.int x0)] dc) (S_5 : Sta Z Z.heap "java/lang/String" "COMPACT_STRINGS" "Z" (.int zc)) (r_6 : (¬ zc = 0)) (r_7 : (¬ (255 : Int32) < x0)) :
    Con l Z (⟨"java/lang/String", "<init>", "([C)V"⟩ : MethodName) jdk_42_method_3_code 2 none ({ frames := 3, cells := 1, slots := 1, locals := 52 } : Room) #[(.ref a1), (.ref a2)] h0 (fun v h L => ∃ (r : Addr) (kb : ClassId), v = none ∧ Fr n0 L ∧ Keep h0 h [a1] ∧ h0.size ≤ r ∧ Exa Z h a1 "java/lang/String" ∧ Fld Z h a1 "java/lang/String" "coder" "B" (.int (0 : Int32)) ∧ Fld Z h a1 "java/lang/String" "value" "[B" (.ref r) ∧ Arv Z h r kb .byte (1 : Int32) [(.int x0.toInt8.toInt32)] (.int (0 : Int32))) := by
  refine Con.of (plainFor_of_name pn_1) ?_
  intro p e s m below meth c s₁ hx hby hml hZ hown hnm hret hlk X0 e0
  have N0 := Fr.nil n0
  refine go_cast (g' := mkF m 0 #[.val (.ref a1), .val (.ref a2)] []) ?_ (by first | (simp [entryFrame, mkF, argsToLocals, Value.category]; done) | rfl)
  refine go_aload_n (q := 1) X0 hx (hb hby d1_0) (v := (.ref a1)) rfl rfl rfl ?_
  refine go_aload_n (q := 2) X0 hx (hb hby d1_1) (v := (.ref a2)) rfl rfl rfl ?_
  refine go_iconst (q := 3) X0 hx (hb hby d1_2) (v := (0 : Int32)) (by decide) rfl ?_
  refine go_aload_n (q := 4) X0 hx (hb hby d1_3) (v := (.ref a2)) rfl rfl rfl ?_
  refine go_alen (q := 5) X0 hx hZ e0 A_4 (hb hby d1_4) rfl ?_
  refine go_aconst_null (q := 6) X0 hx (hb hby d1_5)  rfl ?_
  refine go_special (q := 9) X0 hx hZ hown (y := (⟨"java/lang/String", "<init>", "([CIILjava/lang/Void;)V"⟩ : MethodName)) (a := a1) rfl (w8 hw) (w9 hw) (w4 hw) (w11 hw) (by decide) e0 (b2 l Z a0 hw a1 a2 u1 u2 kc dc zc x0 h0 n0 O0 E_0 F_1 F_2 g_3 A_4 S_5 r_6 r_7) (argsL := [(.ref a2), (.int (0 : Int32)), (.int (1 : Int32)), .null]) (rest := []) rfl (lenOf pd_3 rfl) rfl (by rw [hml]; rfl) (W := 0) (Nat.le_of_eq rfl) (hb hby d1_6) (by decide) (by decide) (by decide) (by decide) rfl ?_
  rintro T1 h1 _ L1 X1 e1 ⟨r_1, kb_1, rfl, M1, K1, p1_0, p1_1, p1_2, p1_3, p1_4⟩
  have N1 := Fr.app N0 M1
  have fr_r_1 : n0 ≤ r_1 := Nat.le_trans (own_le O0) p1_0
  have sn_r_1 : h0.size ≤ r_1 := Nat.le_trans (Nat.le_refl _) p1_0
  have ne_a1_r_1 : a1 ≠ r_1 := own_ltg p1_0 F_2.lt
  have ne_a2_r_1 : a2 ≠ r_1 := own_ltg p1_0 A_4.lt
  refine go_ret0 X1 hx hret hlk e1 (hb hby d1_9) (by decide) (by decide) ?_
  exact ⟨r_1, kb_1, rfl, N1, ((Keep.refl h0 [a1]).trans K1 (allS (P := fun x => x ∈ [a1] ∨ h0.size ≤ x) (Or.inl (List.mem_of_getElem? (i := 0) rfl)) all0)), sn_r_1, p1_1, p1_2, p1_3, p1_4⟩
set_option maxRecDepth 65536 in
set_option maxHeartbeats 40000000 in
theorem b15_1 (l : Launch) (Z : State) (a0 : Array Value) (hw : ∀ d ∈ tables_1, d.before a0 Z = true) (a1 : Addr) (kc : ClassId) (dc : Value) (a2 : Addr) (kb : ClassId) (x0 : Int32) (x1 : Int32) (h0 : Heap) (n0 : Nat) (O0 : Old Z n0 h0) (A_0 : Arv Z h0 a1 kc .char (2 : Int32) [(.int x0), (.int x1)] dc) (A_1 : Arv Z h0 a2 kb .byte (2 : Int32) [(.int (0 : Int32)), (.int (0 : Int32))] (.int (0 : Int32))) (ne_2 : a1 ≠ a2) (g_3 : n0 ≤ a2) (r_4 : (¬ (255 : Int32) < x0)) (r_5 : (¬ (255 : Int32) < x1)) :
    Con l Z (⟨"java/lang/StringUTF16", "compress", "([CI[BII)I"⟩ : MethodName) jdk_52_method_21_code 7 (some .int) ({ frames := 0, cells := 0, slots := 0, locals := 0 } : Room) #[(.ref a1), (.int (0 : Int32)), (.ref a2), (.int (0 : Int32)), (.int (2 : Int32))] h0 (fun v h L => v = some (.int (2 : Int32)) ∧ Fr n0 L ∧ Keep h0 h [a2] ∧ Arv Z h a2 kb .byte (2 : Int32) [(.int x0.toInt8.toInt32), (.int x1.toInt8.toInt32)] (.int (0 : Int32))) := by
  refine Con.of (plainFor_of_name pn_0) ?_
  intro p e s m below meth c s₁ hx hby hml hZ hown hnm hret hlk X0 e0
  have N0 := Fr.nil n0
  refine go_cast (g' := mkF m 0 #[.val (.ref a1), .val (.int (0 : Int32)), .val (.ref a2), .val (.int (0 : Int32)), .val (.int (2 : Int32)), .unset, .unset] []) ?_ (by first | (simp [entryFrame, mkF, argsToLocals, Value.category]; done) | rfl)
  refine go_iconst (q := 1) X0 hx (hb hby d15_0) (v := (0 : Int32)) (by decide) rfl ?_
  refine go_istore (q := 3) X0 hx (hb hby d15_1) (l' := #[.val (.ref a1), .val (.int (0 : Int32)), .val (.ref a2), .val (.int (0 : Int32)), .val (.int (2 : Int32)), .val (.int (0 : Int32)), .unset]) rfl rfl ?_
  refine go_iload (q := 5) X0 hx (hb hby d15_3) (v := (0 : Int32)) rfl rfl ?_
  refine go_iload (q := 7) X0 hx (hb hby d15_5) (v := (2 : Int32)) rfl rfl ?_
  refine go_icmpN (q := 10) X0 hx (hb hby d15_7) (XT.ii_ge_f (by decide)) rfl ?_
  refine go_aload_n (q := 11) X0 hx (hb hby d15_10) (v := (.ref a1)) rfl rfl rfl ?_
  refine go_iload_n (q := 12) X0 hx (hb hby d15_11) (v := (0 : Int32)) rfl rfl ?_
  refine go_caload (q := 13) (j := (0 : Int32)) (v := (.int x0)) X0 hx hZ e0 A_0 (by decide) rfl (hb hby d15_12) rfl ?_
  refine go_istore (q := 15) X0 hx (hb hby d15_13) (l' := #[.val (.ref a1), .val (.int (0 : Int32)), .val (.ref a2), .val (.int (0 : Int32)), .val (.int (2 : Int32)), .val (.int (0 : Int32)), .val (.int x0)]) rfl rfl ?_
  refine go_iload (q := 17) X0 hx (hb hby d15_15) (v := x0) rfl rfl ?_
  refine go_sipush (q := 20) X0 hx (hb hby d15_17) (v := (255 : Int32)) (by decide) rfl ?_
  refine go_icmpY (q := 26) X0 hx (hb hby d15_20) (XT.ii_le_t r_4) (by decide) (by decide) ?_
  refine go_aload_n (q := 27) X0 hx (hb hby d15_26) (v := (.ref a2)) rfl rfl rfl ?_
  refine go_iload_n (q := 28) X0 hx (hb hby d15_27) (v := (0 : Int32)) rfl rfl ?_
  refine go_iload (q := 30) X0 hx (hb hby d15_28) (v := x0) rfl rfl ?_
  refine go_i2b (q := 31) X0 hx (hb hby d15_30) (v := x0.toInt8.toInt32) rfl rfl ?_
  refine go_bastore (q := 32) (j := (0 : Int32)) (i := 0) (vs' := [(.int x0.toInt8.toInt32), (.int (0 : Int32))]) X0 hx hZ e0 A_1 (by decide) (by decide) (show (0 : Nat) < 2 by decide) (own_narb _) rfl (hb hby d15_31) rfl ?_
  intro T1 h1 X1 e1 W1 A1
  have N1 := Fr.snoc X1 N0 g_3
  refine go_iinc (q := 35) X1 hx (hb hby d15_32) (x := (0 : Int32)) (v := (1 : Int32)) rfl (by first | rfl | decide) (l' := #[.val (.ref a1), .val (.int (1 : Int32)), .val (.ref a2), .val (.int (0 : Int32)), .val (.int (2 : Int32)), .val (.int (0 : Int32)), .val (.int x0)]) rfl rfl ?_
  refine go_iinc (q := 38) X1 hx (hb hby d15_35) (x := (0 : Int32)) (v := (1 : Int32)) rfl (by first | rfl | decide) (l' := #[.val (.ref a1), .val (.int (1 : Int32)), .val (.ref a2), .val (.int (1 : Int32)), .val (.int (2 : Int32)), .val (.int (0 : Int32)), .val (.int x0)]) rfl rfl ?_
  refine go_iinc (q := 41) X1 hx (hb hby d15_38) (x := (0 : Int32)) (v := (1 : Int32)) rfl (by first | rfl | decide) (l' := #[.val (.ref a1), .val (.int (1 : Int32)), .val (.ref a2), .val (.int (1 : Int32)), .val (.int (2 : Int32)), .val (.int (1 : Int32)), .val (.int x0)]) rfl rfl ?_
  refine go_goto (q := 3) X1 hx (hb hby d15_41) (by decide) (by decide) ?_
  refine go_iload (q := 5) X1 hx (hb hby d15_3) (v := (1 : Int32)) rfl rfl ?_
  refine go_iload (q := 7) X1 hx (hb hby d15_5) (v := (2 : Int32)) rfl rfl ?_
  refine go_icmpN (q := 10) X1 hx (hb hby d15_7) (XT.ii_ge_f (by decide)) rfl ?_
  refine go_aload_n (q := 11) X1 hx (hb hby d15_10) (v := (.ref a1)) rfl rfl rfl ?_
  refine go_iload_n (q := 12) X1 hx (hb hby d15_11) (v := (1 : Int32)) rfl rfl ?_
  have f2 : Arv Z h1 a1 kc .char (2 : Int32) [(.int x0), (.int x1)] dc := (A_0.other W1 ne_2)
  refine go_caload (q := 13) (j := (1 : Int32)) (v := (.int x1)) X1 hx hZ e1 f2 (by decide) rfl (hb hby d15_12) rfl ?_
  refine go_istore (q := 15) X1 hx (hb hby d15_13) (l' := #[.val (.ref a1), .val (.int (1 : Int32)), .val (.ref a2), .val (.int (1 : Int32)), .val (.int (2 : Int32)), .val (.int (1 : Int32)), .val (.int x1)]) rfl rfl ?_
  refine go_iload (q := 17) X1 hx (hb hby d15_15) (v := x1) rfl rfl ?_
  refine go_sipush (q := 20) X1 hx (hb hby d15_17) (v := (255 : Int32)) (by decide) rfl ?_
  refine go_icmpY (q := 26) X1 hx (hb hby d15_20) (XT.ii_le_t r_5) (by decide) (by decide) ?_
  refine go_aload_n (q := 27) X1 hx (hb hby d15_26) (v := (.ref a2)) rfl rfl rfl ?_
  refine go_iload_n (q := 28) X1 hx (hb hby d15_27) (v := (1 : Int32)) rfl rfl ?_
  refine go_iload (q := 30) X1 hx (hb hby d15_28) (v := x1) rfl rfl ?_
  refine go_i2b (q := 31) X1 hx (hb hby d15_30) (v := x1.toInt8.toInt32) rfl rfl ?_
  refine go_bastore (q := 32) (j := (1 : Int32)) (i := 1) (vs' := [(.int x0.toInt8.toInt32), (.int x1.toInt8.toInt32)]) X1 hx hZ e1 A1 (by decide) (by decide) (show (1 : Nat) < 2 by decide) (own_narb _) rfl (hb hby d15_31) rfl ?_
  intro T3 h3 X3 e3 W3 A3
  have N3 := Fr.snoc X3 N1 g_3
  refine go_iinc (q := 35) X3 hx (hb hby d15_32) (x := (1 : Int32)) (v := (2 : Int32)) rfl (by first | rfl | decide) (l' := #[.val (.ref a1), .val (.int (2 : Int32)), .val (.ref a2), .val (.int (1 : Int32)), .val (.int (2 : Int32)), .val (.int (1 : Int32)), .val (.int x1)]) rfl rfl ?_
  refine go_iinc (q := 38) X3 hx (hb hby d15_35) (x := (1 : Int32)) (v := (2 : Int32)) rfl (by first | rfl | decide) (l' := #[.val (.ref a1), .val (.int (2 : Int32)), .val (.ref a2), .val (.int (2 : Int32)), .val (.int (2 : Int32)), .val (.int (1 : Int32)), .val (.int x1)]) rfl rfl ?_
  refine go_iinc (q := 41) X3 hx (hb hby d15_38) (x := (1 : Int32)) (v := (2 : Int32)) rfl (by first | rfl | decide) (l' := #[.val (.ref a1), .val (.int (2 : Int32)), .val (.ref a2), .val (.int (2 : Int32)), .val (.int (2 : Int32)), .val (.int (2 : Int32)), .val (.int x1)]) rfl rfl ?_
  refine go_goto (q := 3) X3 hx (hb hby d15_41) (by decide) (by decide) ?_
  refine go_iload (q := 5) X3 hx (hb hby d15_3) (v := (2 : Int32)) rfl rfl ?_
  refine go_iload (q := 7) X3 hx (hb hby d15_5) (v := (2 : Int32)) rfl rfl ?_
  refine go_icmpY (q := 44) X3 hx (hb hby d15_7) (XT.ii_ge_t (by decide)) (by decide) (by decide) ?_
  refine go_iload (q := 46) X3 hx (hb hby d15_44) (v := (2 : Int32)) rfl rfl ?_
  refine go_retI X3 hx hret hlk e3 (hb hby d15_46) (by simp) rfl (by decide) (by decide) ?_
  exact ⟨rfl, N3, (((Keep.refl h0 [a2]).wr W1 (Or.inl (List.mem_of_getElem? (i := 0) rfl))).wr W3 (Or.inl (List.mem_of_getElem? (i := 0) rfl))), A3⟩
set_option maxRecDepth 65536 in
set_option maxHeartbeats 40000000 in
theorem b14_1 (l : Launch) (Z : State) (a0 : Array Value) (hw : ∀ d ∈ tables_1, d.before a0 Z = true) (a1 : Addr) (kc : ClassId) (dc : Value) (x0 : Int32) (x1 : Int32) (h0 : Heap) (n0 : Nat) (O0 : Old Z n0 h0) (A_0 : Arv Z h0 a1 kc .char (2 : Int32) [(.int x0), (.int x1)] dc) (r_1 : (¬ (255 : Int32) < x0)) (r_2 : (¬ (255 : Int32) < x1)) :
    Con l Z (⟨"java/lang/StringUTF16", "compress", "([CII)[B"⟩ : MethodName) jdk_52_method_16_code 6 (some (.array .byte)) ({ frames := 1, cells := 1, slots := 2, locals := 18 } : Room) #[(.ref a1), (.int (0 : Int32)), (.int (2 : Int32))] h0 (fun v h L => ∃ (r : Addr) (kb : ClassId), v = some (.ref r) ∧ Fr n0 L ∧ Keep h0 h [] ∧ h0.size ≤ r ∧ Arv Z h r kb .byte (2 : Int32) [(.int x0.toInt8.toInt32), (.int x1.toInt8.toInt32)] (.int (0 : Int32))) := by
  refine Con.of (plainFor_of_name pn_0) ?_
  intro p e s m below meth c s₁ hx hby hml hZ hown hnm hret hlk X0 e0
  have N0 := Fr.nil n0
  refine go_cast (g' := mkF m 0 #[.val (.ref a1), .val (.int (0 : Int32)), .val (.int (2 : Int32)), .unset, .unset, .unset] []) ?_ (by first | (simp [entryFrame, mkF, argsToLocals, Value.category]; done) | rfl)
  refine go_iload_n (q := 1) X0 hx (hb hby d14_0) (v := (2 : Int32)) rfl rfl ?_
  refine go_newP (q := 3) (ty := .byte) (cap := 2) (vs := [(.int (0 : Int32)), (.int (0 : Int32))]) (dv := (.int (0 : Int32))) X0 hx hZ rfl (w16 hw) e0 (hb hby d14_1) (by decide) (by decide) (by decide) (by decide) (by decide) rfl rfl rfl ?_
  intro T1 h1 ob1 k1 g1 X1 e1 E1 A1
  have fr1 : n0 ≤ ob1 := own_ge O0 g1
  have sn1 : h0.size ≤ ob1 := g1 ▸ (Nat.le_refl _)
  have ne_a1_ob1 : a1 ≠ ob1 := own_lt g1 A_0.lt
  refine go_astore_n (q := 4) X1 hx (hb hby d14_3) rfl (l' := #[.val (.ref a1), .val (.int (0 : Int32)), .val (.int (2 : Int32)), .val (.ref ob1), .unset, .unset]) rfl rfl ?_
  refine go_aload_n (q := 5) X1 hx (hb hby d14_4) (v := (.ref a1)) rfl rfl rfl ?_
  refine go_iload_n (q := 6) X1 hx (hb hby d14_5) (v := (0 : Int32)) rfl rfl ?_
  refine go_aload_n (q := 7) X1 hx (hb hby d14_6) (v := (.ref ob1)) rfl rfl rfl ?_
  refine go_iconst (q := 8) X1 hx (hb hby d14_7) (v := (0 : Int32)) (by decide) rfl ?_
  refine go_iload_n (q := 9) X1 hx (hb hby d14_8) (v := (2 : Int32)) rfl rfl ?_
  have f2 : Arv Z h1 a1 kc .char (2 : Int32) [(.int x0), (.int x1)] dc := (A_0.ext E1)
  have O3 : Old Z n0 h1 := (O0.ext E1)
  refine go_static (q := 12) X1 hx hZ hown (y := (⟨"java/lang/StringUTF16", "compress", "([CI[BII)I"⟩ : MethodName)) (w71 hw) (w72 hw) (w69 hw) (w73 hw) (by decide) e1 (b15_1 l Z a0 hw a1 kc dc ob1 k1 x0 x1 h1 n0 O3 f2 A1 ne_a1_ob1 fr1 r_1 r_2) (argsL := [(.ref a1), (.int (0 : Int32)), (.ref ob1), (.int (0 : Int32)), (.int (2 : Int32))]) (rest := []) rfl (lenOf pd_0 rfl) rfl (by rw [hml]; rfl) (W := 0) (Nat.le_of_eq rfl) (hb hby d14_9) (by decide) (by decide) (by decide) (by decide) rfl ?_
  rintro T4 h4 _ L4 X4 e4 ⟨rfl, M4, K4, p4_0⟩
  have N4 := Fr.app N0 M4
  refine go_istore (q := 14) X4 hx (hb hby d14_12) (l' := #[.val (.ref a1), .val (.int (0 : Int32)), .val (.int (2 : Int32)), .val (.ref ob1), .val (.int (2 : Int32)), .unset]) rfl rfl ?_
  refine go_iload (q := 16) X4 hx (hb hby d14_14) (v := (2 : Int32)) rfl rfl ?_
  refine go_iload_n (q := 17) X4 hx (hb hby d14_16) (v := (2 : Int32)) rfl rfl ?_
  refine go_icmpY (q := 57) X4 hx (hb hby d14_17) (XT.ii_eq_t (by decide)) (by decide) (by decide) ?_
  refine go_aload_n (q := 58) X4 hx (hb hby d14_57) (v := (.ref ob1)) rfl rfl rfl ?_
  refine go_retA X4 hx hret hlk e4 (hb hby d14_58) rfl rfl rfl (by decide) (by decide) ?_
  exact ⟨ob1, k1, rfl, N4, (((Keep.refl h0 []).ext E1).trans K4 (allS (P := fun x => x ∈ [] ∨ h0.size ≤ x) (Or.inr sn1) all0)), sn1, p4_0⟩
set_option maxRecDepth 65536 in
set_option maxHeartbeats 40000000 in
theorem b16_1 (l : Launch) (Z : State) (a0 : Array Value) (hw : ∀ d ∈ tables_1, d.before a0 Z = true) (a1 : Addr) (kb : ClassId) (vs : List Value) (h0 : Heap) (n0 : Nat) (O0 : Old Z n0 h0) (A_0 : Arv Z h0 a1 kb .byte (2 : Int32) vs (.int (0 : Int32))) :
    Con l Z (⟨"java/lang/StringUTF16", "coderFromArrayLen", "([BI)B"⟩ : MethodName) jdk_52_method_15_code 2 (some .byte) ({ frames := 0, cells := 0, slots := 0, locals := 0 } : Room) #[(.ref a1), (.int (2 : Int32))] h0 (fun v h L => v = some (.int (0 : Int32)) ∧ Fr n0 L ∧ Keep h0 h []) := by
  refine Con.of (plainFor_of_name pn_0) ?_
  intro p e s m below meth c s₁ hx hby hml hZ hown hnm hret hlk X0 e0
  have N0 := Fr.nil n0
  refine go_cast (g' := mkF m 0 #[.val (.ref a1), .val (.int (2 : Int32))] []) ?_ (by first | (simp [entryFrame, mkF, argsToLocals, Value.category]; done) | rfl)
  refine go_iload_n (q := 1) X0 hx (hb hby d16_0) (v := (2 : Int32)) rfl rfl ?_
  refine go_aload_n (q := 2) X0 hx (hb hby d16_1) (v := (.ref a1)) rfl rfl rfl ?_
  refine go_alen (q := 3) X0 hx hZ e0 A_0 (hb hby d16_2) rfl ?_
  refine go_isub (q := 4) X0 hx (hb hby d16_3) (v := (0 : Int32)) (by decide) rfl ?_
  refine go_bipush (q := 6) X0 hx (hb hby d16_4) (v := (31 : Int32)) (by decide) rfl ?_
  refine go_iushr (q := 7) X0 hx (hb hby d16_6) (v := (0 : Int32)) (by decide) rfl ?_
  refine go_i2b (q := 8) X0 hx (hb hby d16_7) (v := (0 : Int32)) (by decide) rfl ?_
  refine go_retI X0 hx hret hlk e0 (hb hby d16_8) (by simp) (by decide) (by decide) (by decide) ?_
  exact ⟨rfl, N0, (Keep.refl h0 [])⟩
set_option maxRecDepth 65536 in
set_option maxHeartbeats 40000000 in
theorem b2_1 (l : Launch) (Z : State) (a0 : Array Value) (hw : ∀ d ∈ tables_1, d.before a0 Z = true) (a1 : Addr) (a2 : Addr) (u1 : Value) (u2 : Value) (kc : ClassId) (dc : Value) (zc : Int32) (x0 : Int32) (x1 : Int32) (h0 : Heap) (n0 : Nat) (O0 : Old Z n0 h0) (E_0 : Exa Z h0 a1 "java/lang/String") (F_1 : Fld Z h0 a1 "java/lang/String" "value" "[B" u1) (F_2 : Fld Z h0 a1 "java/lang/String" "coder" "B" u2) (g_3 : n0 ≤ a1) (A_4 : Arv Z h0 a2 kc .char (2 : Int32) [(.int x0), (.int x1)] dc) (S_5 : Sta Z Z.heap "java/lang/String" "COMPACT_STRINGS" "Z" (.int zc)) (r_6 : (¬ zc = 0)) (r_7 : (¬ (255 : Int32) < x0)) (r_8 : (¬ (255 : Int32) < x1)) :
    Con l Z (⟨"java/lang/String", "<init>", "([CIILjava/lang/Void;)V"⟩ : MethodName) jdk_42_method_149_code 6 none ({ frames := 2, cells := 1, slots := 2, locals := 35 } : Room) #[(.ref a1), (.ref a2), (.int (0 : Int32)), (.int (2 : Int32)), .null] h0 (fun v h L => ∃ (r : Addr) (kb : ClassId), v = none ∧ Fr n0 L ∧ Keep h0 h [a1] ∧ h0.size ≤ r ∧ Exa Z h a1 "java/lang/String" ∧ Fld Z h a1 "java/lang/String" "coder" "B" (.int (0 : Int32)) ∧ Fld Z h a1 "java/lang/String" "value" "[B" (.ref r) ∧ Arv Z h r kb .byte (2 : Int32) [(.int x0.toInt8.toInt32), (.int x1.toInt8.toInt32)] (.int (0 : Int32))) := by
  refine Con.of (plainFor_of_name pn_1) ?_
  intro p e s m below meth c s₁ hx hby hml hZ hown hnm hret hlk X0 e0
  have N0 := Fr.nil n0
  refine go_cast (g' := mkF m 0 #[.val (.ref a1), .val (.ref a2), .val (.int (0 : Int32)), .val (.int (2 : Int32)), .val .null, .unset] []) ?_ (by first | (simp [entryFrame, mkF, argsToLocals, Value.category]; done) | rfl)
  refine go_aload_n (q := 1) X0 hx (hb hby d2_0) (v := (.ref a1)) rfl rfl rfl ?_
  refine go_initO (q := 4) (W := 0) X0 hx hZ hown (w12 hw) (w13 hw) (w14 hw) e0 (by rw [hml]; rfl) (hb hby d2_1) (by decide) (Nat.le_of_eq rfl) (by decide) rfl ?_
  intro T1 X1 e1
  refine go_iload_n (q := 5) X1 hx (hb hby d2_4) (v := (2 : Int32)) rfl rfl ?_
  refine go_ifY (q := 27) X1 hx (hb hby d2_5) (XT.i0_ne_t (by decide)) (by decide) (by decide) ?_
  refine go_getS (q := 30) (host := "") X1 hx hZ hown (Or.inl (w42 hw)) Via.refl e1 (Sta.ext O0.2 S_5) (hb hby d2_27) rfl ?_
  intro T2 X2 e2
  refine go_ifN (q := 33) X2 hx (hb hby d2_30) (XT.i0_eq_f r_6) rfl ?_
  refine go_aload_n (q := 34) X2 hx (hb hby d2_33) (v := (.ref a2)) rfl rfl rfl ?_
  refine go_iload_n (q := 35) X2 hx (hb hby d2_34) (v := (0 : Int32)) rfl rfl ?_
  refine go_iload_n (q := 36) X2 hx (hb hby d2_35) (v := (2 : Int32)) rfl rfl ?_
  refine go_static (q := 39) X2 hx hZ hown (y := (⟨"java/lang/StringUTF16", "compress", "([CII)[B"⟩ : MethodName)) (w67 hw) (w68 hw) (w69 hw) (w70 hw) (by decide) e2 (b14_1 l Z a0 hw a2 kc dc x0 x1 h0 n0 O0 A_4 r_7 r_8) (argsL := [(.ref a2), (.int (0 : Int32)), (.int (2 : Int32))]) (rest := []) rfl (lenOf pd_1 rfl) rfl (by rw [hml]; rfl) (W := 0) (Nat.le_of_eq rfl) (hb hby d2_36) (by decide) (by decide) (by decide) (by decide) rfl ?_
  rintro T3 h3 _ L3 X3 e3 ⟨r_3, kb_3, rfl, M3, K3, p3_0, p3_1⟩
  have N3 := Fr.app N0 M3
  have fr_r_3 : n0 ≤ r_3 := Nat.le_trans (own_le O0) p3_0
  have sn_r_3 : h0.size ≤ r_3 := Nat.le_trans (Nat.le_refl _) p3_0
  have ne_a1_r_3 : a1 ≠ r_3 := own_ltg p3_0 F_2.lt
  have ne_a2_r_3 : a2 ≠ r_3 := own_ltg p3_0 A_4.lt
  refine go_astore (q := 41) X3 hx (hb hby d2_39) rfl (l' := #[.val (.ref a1), .val (.ref a2), .val (.int (0 : Int32)), .val (.int (2 : Int32)), .val .null, .val (.ref r_3)]) rfl rfl ?_
  refine go_aload_n (q := 42) X3 hx (hb hby d2_41) (v := (.ref a1)) rfl rfl rfl ?_
  refine go_aload (q := 44) X3 hx (hb hby d2_42) (v := (.ref r_3)) rfl rfl rfl ?_
  refine go_iload_n (q := 45) X3 hx (hb hby d2_44) (v := (2 : Int32)) rfl rfl ?_
  have O4 : Old Z n0 h3 := (O0.keep K3 all0)
  refine go_static (q := 48) X3 hx hZ hown (y := (⟨"java/lang/StringUTF16", "coderFromArrayLen", "([BI)B"⟩ : MethodName)) (w74 hw) (w75 hw) (w69 hw) (w76 hw) (by decide) e3 (b16_1 l Z a0 hw r_3 kb_3 [(.int x0.toInt8.toInt32), (.int x1.toInt8.toInt32)] h3 n0 O4 p3_1) (argsL := [(.ref r_3), (.int (2 : Int32))]) (rest := [(.ref a1)]) rfl (lenOf pd_2 rfl) rfl (by rw [hml]; rfl) (W := 1) (Nat.le_of_eq rfl) (hb hby d2_45) (by decide) (by decide) (by decide) (by decide) rfl ?_
  rintro T5 h5 _ L5 X5 e5 ⟨rfl, M5, K5⟩
  have N5 := Fr.app N3 M5
  have f6 : Exa Z h5 a1 "java/lang/String" := ((E_0.keep K3).keep K5)
  have f7 : Fld Z h5 a1 "java/lang/String" "coder" "B" u2 := ((F_2.keep K3 nin0).keep K5 nin0)
  refine go_putF (q := 51) (host := "") X5 hx hZ hown (Or.inl (w22 hw)) Via.refl e5 f7 f6 (Or.inr ⟨(w18 hw), rfl, hnm⟩) (w3 hw) (ty := .byte) (by decide) (by decide) (by decide) (hb hby d2_48) rfl ?_
  intro T8 h8 X8 e8 W8
  have N8 := Fr.snoc X8 N5 g_3
  have F8 : Fld Z h8 a1 "java/lang/String" "coder" "B" (.int (0 : Int32)) := f7.same W8
  refine go_aload_n (q := 52) X8 hx (hb hby d2_51) (v := (.ref a1)) rfl rfl rfl ?_
  refine go_aload (q := 54) X8 hx (hb hby d2_52) (v := (.ref r_3)) rfl rfl rfl ?_
  have f9 : Exa Z h8 a1 "java/lang/String" := (f6.wr W8)
  have f10 : Fld Z h8 a1 "java/lang/String" "value" "[B" u1 := (((F_1.keep K3 nin0).keep K5 nin0).other W8 (Or.inr (slot_ne (Or.inr (w17 hw)) (Or.inr (w18 hw)) (by decide) (t := (.array .byte)) (t' := .byte) (by decide) (by decide))))
  refine go_putF (q := 57) (host := "") X8 hx hZ hown (Or.inl (w21 hw)) Via.refl e8 f10 f9 (Or.inr ⟨(w17 hw), rfl, hnm⟩) (w3 hw) (ty := (.array .byte)) (by decide) rfl rfl (hb hby d2_54) rfl ?_
  intro T11 h11 X11 e11 W11
  have N11 := Fr.snoc X11 N8 g_3
  have F11 : Fld Z h11 a1 "java/lang/String" "value" "[B" (.ref r_3) := f10.same W11
  have f12 : Exa Z h11 a1 "java/lang/String" := (f9.wr W11)
  have f13 : Fld Z h11 a1 "java/lang/String" "coder" "B" (.int (0 : Int32)) := (F8.other W11 (Or.inr (slot_ne (Or.inr (w18 hw)) (Or.inr (w17 hw)) (by decide) (t := .byte) (t' := (.array .byte)) (by decide) (by decide))))
  have f14 : Arv Z h11 r_3 kb_3 .byte (2 : Int32) [(.int x0.toInt8.toInt32), (.int x1.toInt8.toInt32)] (.int (0 : Int32)) := (((p3_1.keep K5 nin0).other W8 (Ne.symm ne_a1_r_3)).other W11 (Ne.symm ne_a1_r_3))
  refine go_ret0 X11 hx hret hlk e11 (hb hby d2_57) (by decide) (by decide) ?_
  exact ⟨r_3, kb_3, rfl, N11, (((((Keep.refl h0 [a1]).trans K3 all0).trans K5 all0).wr W8 (Or.inl (List.mem_of_getElem? (i := 0) rfl))).wr W11 (Or.inl (List.mem_of_getElem? (i := 0) rfl))), sn_r_3, f12, f13, F11, f14⟩
set_option maxRecDepth 65536 in
set_option maxHeartbeats 40000000 in
theorem b1_1 (l : Launch) (Z : State) (a0 : Array Value) (hw : ∀ d ∈ tables_1, d.before a0 Z = true) (a1 : Addr) (a2 : Addr) (u1 : Value) (u2 : Value) (kc : ClassId) (dc : Value) (zc : Int32) (x0 : Int32) (x1 : Int32) (h0 : Heap) (n0 : Nat) (O0 : Old Z n0 h0) (E_0 : Exa Z h0 a1 "java/lang/String") (F_1 : Fld Z h0 a1 "java/lang/String" "value" "[B" u1) (F_2 : Fld Z h0 a1 "java/lang/String" "coder" "B" u2) (g_3 : n0 ≤ a1) (A_4 : Arv Z h0 a2 kc .char (2 : Int32) [(.int x0), (.int x1)] dc) (S_5 : Sta Z Z.heap "java/lang/String" "COMPACT_STRINGS" "Z" (.int zc)) (r_6 : (¬ zc = 0)) (r_7 : (¬ (255 : Int32) < x0)) (r_8 : (¬ (255 : Int32) < x1)) :
    Con l Z (⟨"java/lang/String", "<init>", "([C)V"⟩ : MethodName) jdk_42_method_3_code 2 none ({ frames := 3, cells := 1, slots := 2, locals := 52 } : Room) #[(.ref a1), (.ref a2)] h0 (fun v h L => ∃ (r : Addr) (kb : ClassId), v = none ∧ Fr n0 L ∧ Keep h0 h [a1] ∧ h0.size ≤ r ∧ Exa Z h a1 "java/lang/String" ∧ Fld Z h a1 "java/lang/String" "coder" "B" (.int (0 : Int32)) ∧ Fld Z h a1 "java/lang/String" "value" "[B" (.ref r) ∧ Arv Z h r kb .byte (2 : Int32) [(.int x0.toInt8.toInt32), (.int x1.toInt8.toInt32)] (.int (0 : Int32))) := by
  refine Con.of (plainFor_of_name pn_1) ?_
  intro p e s m below meth c s₁ hx hby hml hZ hown hnm hret hlk X0 e0
  have N0 := Fr.nil n0
  refine go_cast (g' := mkF m 0 #[.val (.ref a1), .val (.ref a2)] []) ?_ (by first | (simp [entryFrame, mkF, argsToLocals, Value.category]; done) | rfl)
  refine go_aload_n (q := 1) X0 hx (hb hby d1_0) (v := (.ref a1)) rfl rfl rfl ?_
  refine go_aload_n (q := 2) X0 hx (hb hby d1_1) (v := (.ref a2)) rfl rfl rfl ?_
  refine go_iconst (q := 3) X0 hx (hb hby d1_2) (v := (0 : Int32)) (by decide) rfl ?_
  refine go_aload_n (q := 4) X0 hx (hb hby d1_3) (v := (.ref a2)) rfl rfl rfl ?_
  refine go_alen (q := 5) X0 hx hZ e0 A_4 (hb hby d1_4) rfl ?_
  refine go_aconst_null (q := 6) X0 hx (hb hby d1_5)  rfl ?_
  refine go_special (q := 9) X0 hx hZ hown (y := (⟨"java/lang/String", "<init>", "([CIILjava/lang/Void;)V"⟩ : MethodName)) (a := a1) rfl (w8 hw) (w9 hw) (w4 hw) (w11 hw) (by decide) e0 (b2_1 l Z a0 hw a1 a2 u1 u2 kc dc zc x0 x1 h0 n0 O0 E_0 F_1 F_2 g_3 A_4 S_5 r_6 r_7 r_8) (argsL := [(.ref a2), (.int (0 : Int32)), (.int (2 : Int32)), .null]) (rest := []) rfl (lenOf pd_3 rfl) rfl (by rw [hml]; rfl) (W := 0) (Nat.le_of_eq rfl) (hb hby d1_6) (by decide) (by decide) (by decide) (by decide) rfl ?_
  rintro T1 h1 _ L1 X1 e1 ⟨r_1, kb_1, rfl, M1, K1, p1_0, p1_1, p1_2, p1_3, p1_4⟩
  have N1 := Fr.app N0 M1
  have fr_r_1 : n0 ≤ r_1 := Nat.le_trans (own_le O0) p1_0
  have sn_r_1 : h0.size ≤ r_1 := Nat.le_trans (Nat.le_refl _) p1_0
  have ne_a1_r_1 : a1 ≠ r_1 := own_ltg p1_0 F_2.lt
  have ne_a2_r_1 : a2 ≠ r_1 := own_ltg p1_0 A_4.lt
  refine go_ret0 X1 hx hret hlk e1 (hb hby d1_9) (by decide) (by decide) ?_
  exact ⟨r_1, kb_1, rfl, N1, ((Keep.refl h0 [a1]).trans K1 (allS (P := fun x => x ∈ [a1] ∨ h0.size ≤ x) (Or.inl (List.mem_of_getElem? (i := 0) rfl)) all0)), sn_r_1, p1_1, p1_2, p1_3, p1_4⟩
set_option maxRecDepth 65536 in
set_option maxHeartbeats 40000000 in
theorem b15_2 (l : Launch) (Z : State) (a0 : Array Value) (hw : ∀ d ∈ tables_1, d.before a0 Z = true) (a1 : Addr) (kc : ClassId) (dc : Value) (a2 : Addr) (kb : ClassId) (x0 : Int32) (x1 : Int32) (x2 : Int32) (h0 : Heap) (n0 : Nat) (O0 : Old Z n0 h0) (A_0 : Arv Z h0 a1 kc .char (3 : Int32) [(.int x0), (.int x1), (.int x2)] dc) (A_1 : Arv Z h0 a2 kb .byte (3 : Int32) [(.int (0 : Int32)), (.int (0 : Int32)), (.int (0 : Int32))] (.int (0 : Int32))) (ne_2 : a1 ≠ a2) (g_3 : n0 ≤ a2) (r_4 : (¬ (255 : Int32) < x0)) (r_5 : (¬ (255 : Int32) < x1)) (r_6 : (¬ (255 : Int32) < x2)) :
    Con l Z (⟨"java/lang/StringUTF16", "compress", "([CI[BII)I"⟩ : MethodName) jdk_52_method_21_code 7 (some .int) ({ frames := 0, cells := 0, slots := 0, locals := 0 } : Room) #[(.ref a1), (.int (0 : Int32)), (.ref a2), (.int (0 : Int32)), (.int (3 : Int32))] h0 (fun v h L => v = some (.int (3 : Int32)) ∧ Fr n0 L ∧ Keep h0 h [a2] ∧ Arv Z h a2 kb .byte (3 : Int32) [(.int x0.toInt8.toInt32), (.int x1.toInt8.toInt32), (.int x2.toInt8.toInt32)] (.int (0 : Int32))) := by
  refine Con.of (plainFor_of_name pn_0) ?_
  intro p e s m below meth c s₁ hx hby hml hZ hown hnm hret hlk X0 e0
  have N0 := Fr.nil n0
  refine go_cast (g' := mkF m 0 #[.val (.ref a1), .val (.int (0 : Int32)), .val (.ref a2), .val (.int (0 : Int32)), .val (.int (3 : Int32)), .unset, .unset] []) ?_ (by first | (simp [entryFrame, mkF, argsToLocals, Value.category]; done) | rfl)
  refine go_iconst (q := 1) X0 hx (hb hby d15_0) (v := (0 : Int32)) (by decide) rfl ?_
  refine go_istore (q := 3) X0 hx (hb hby d15_1) (l' := #[.val (.ref a1), .val (.int (0 : Int32)), .val (.ref a2), .val (.int (0 : Int32)), .val (.int (3 : Int32)), .val (.int (0 : Int32)), .unset]) rfl rfl ?_
  refine go_iload (q := 5) X0 hx (hb hby d15_3) (v := (0 : Int32)) rfl rfl ?_
  refine go_iload (q := 7) X0 hx (hb hby d15_5) (v := (3 : Int32)) rfl rfl ?_
  refine go_icmpN (q := 10) X0 hx (hb hby d15_7) (XT.ii_ge_f (by decide)) rfl ?_
  refine go_aload_n (q := 11) X0 hx (hb hby d15_10) (v := (.ref a1)) rfl rfl rfl ?_
  refine go_iload_n (q := 12) X0 hx (hb hby d15_11) (v := (0 : Int32)) rfl rfl ?_
  refine go_caload (q := 13) (j := (0 : Int32)) (v := (.int x0)) X0 hx hZ e0 A_0 (by decide) rfl (hb hby d15_12) rfl ?_
  refine go_istore (q := 15) X0 hx (hb hby d15_13) (l' := #[.val (.ref a1), .val (.int (0 : Int32)), .val (.ref a2), .val (.int (0 : Int32)), .val (.int (3 : Int32)), .val (.int (0 : Int32)), .val (.int x0)]) rfl rfl ?_
  refine go_iload (q := 17) X0 hx (hb hby d15_15) (v := x0) rfl rfl ?_
  refine go_sipush (q := 20) X0 hx (hb hby d15_17) (v := (255 : Int32)) (by decide) rfl ?_
  refine go_icmpY (q := 26) X0 hx (hb hby d15_20) (XT.ii_le_t r_4) (by decide) (by decide) ?_
  refine go_aload_n (q := 27) X0 hx (hb hby d15_26) (v := (.ref a2)) rfl rfl rfl ?_
  refine go_iload_n (q := 28) X0 hx (hb hby d15_27) (v := (0 : Int32)) rfl rfl ?_
  refine go_iload (q := 30) X0 hx (hb hby d15_28) (v := x0) rfl rfl ?_
  refine go_i2b (q := 31) X0 hx (hb hby d15_30) (v := x0.toInt8.toInt32) rfl rfl ?_
  refine go_bastore (q := 32) (j := (0 : Int32)) (i := 0) (vs' := [(.int x0.toInt8.toInt32), (.int (0 : Int32)), (.int (0 : Int32))]) X0 hx hZ e0 A_1 (by decide) (by decide) (show (0 : Nat) < 3 by decide) (own_narb _) rfl (hb hby d15_31) rfl ?_
  intro T1 h1 X1 e1 W1 A1
  have N1 := Fr.snoc X1 N0 g_3
  refine go_iinc (q := 35) X1 hx (hb hby d15_32) (x := (0 : Int32)) (v := (1 : Int32)) rfl (by first | rfl | decide) (l' := #[.val (.ref a1), .val (.int (1 : Int32)), .val (.ref a2), .val (.int (0 : Int32)), .val (.int (3 : Int32)), .val (.int (0 : Int32)), .val (.int x0)]) rfl rfl ?_
  refine go_iinc (q := 38) X1 hx (hb hby d15_35) (x := (0 : Int32)) (v := (1 : Int32)) rfl (by first | rfl | decide) (l' := #[.val (.ref a1), .val (.int (1 : Int32)), .val (.ref a2), .val (.int (1 : Int32)), .val (.int (3 : Int32)), .val (.int (0 : Int32)), .val (.int x0)]) rfl rfl ?_
  refine go_iinc (q := 41) X1 hx (hb hby d15_38) (x := (0 : Int32)) (v := (1 : Int32)) rfl (by first | rfl | decide) (l' := #[.val (.ref a1), .val (.int (1 : Int32)), .val (.ref a2), .val (.int (1 : Int32)), .val (.int (3 : Int32)), .val (.int (1 : Int32)), .val (.int x0)]) rfl rfl ?_
  refine go_goto (q := 3) X1 hx (hb hby d15_41) (by decide) (by decide) ?_
  refine go_iload (q := 5) X1 hx (hb hby d15_3) (v := (1 : Int32)) rfl rfl ?_
  refine go_iload (q := 7) X1 hx (hb hby d15_5) (v := (3 : Int32)) rfl rfl ?_
  refine go_icmpN (q := 10) X1 hx (hb hby d15_7) (XT.ii_ge_f (by decide)) rfl ?_
  refine go_aload_n (q := 11) X1 hx (hb hby d15_10) (v := (.ref a1)) rfl rfl rfl ?_
  refine go_iload_n (q := 12) X1 hx (hb hby d15_11) (v := (1 : Int32)) rfl rfl ?_
  have f2 : Arv Z h1 a1 kc .char (3 : Int32) [(.int x0), (.int x1), (.int x2)] dc := (A_0.other W1 ne_2)
  refine go_caload (q := 13) (j := (1 : Int32)) (v := (.int x1)) X1 hx hZ e1 f2 (by decide) rfl (hb hby d15_12) rfl ?_
  refine go_istore (q := 15) X1 hx (hb hby d15_13) (l' := #[.val (.ref a1), .val (.int (1 : Int32)), .val (.ref a2), .val (.int (1 : Int32)), .val (.int (3 : Int32)), .val (.int (1 : Int32)), .val (.int x1)]) rfl rfl ?_
  refine go_iload (q := 17) X1 hx (hb hby d15_15) (v := x1) rfl rfl ?_
  refine go_sipush (q := 20) X1 hx (hb hby d15_17) (v := (255 : Int32)) (by decide) rfl ?_
  refine go_icmpY (q := 26) X1 hx (hb hby d15_20) (XT.ii_le_t r_5) (by decide) (by decide) ?_
  refine go_aload_n (q := 27) X1 hx (hb hby d15_26) (v := (.ref a2)) rfl rfl rfl ?_
  refine go_iload_n (q := 28) X1 hx (hb hby d15_27) (v := (1 : Int32)) rfl rfl ?_
  refine go_iload (q := 30) X1 hx (hb hby d15_28) (v := x1) rfl rfl ?_
  refine go_i2b (q := 31) X1 hx (hb hby d15_30) (v := x1.toInt8.toInt32) rfl rfl ?_
  refine go_bastore (q := 32) (j := (1 : Int32)) (i := 1) (vs' := [(.int x0.toInt8.toInt32), (.int x1.toInt8.toInt32), (.int (0 : Int32))]) X1 hx hZ e1 A1 (by decide) (by decide) (show (1 : Nat) < 3 by decide) (own_narb _) rfl (hb hby d15_31) rfl ?_
  intro T3 h3 X3 e3 W3 A3
  have N3 := Fr.snoc X3 N1 g_3
  refine go_iinc (q := 35) X3 hx (hb hby d15_32) (x := (1 : Int32)) (v := (2 : Int32)) rfl (by first | rfl | decide) (l' := #[.val (.ref a1), .val (.int (2 : Int32)), .val (.ref a2), .val (.int (1 : Int32)), .val (.int (3 : Int32)), .val (.int (1 : Int32)), .val (.int x1)]) rfl rfl ?_
  refine go_iinc (q := 38) X3 hx (hb hby d15_35) (x := (1 : Int32)) (v := (2 : Int32)) rfl (by first | rfl | decide) (l' := #[.val (.ref a1), .val (.int (2 : Int32)), .val (.ref a2), .val (.int (2 : Int32)), .val (.int (3 : Int32)), .val (.int (1 : Int32)), .val (.int x1)]) rfl rfl ?_
  refine go_iinc (q := 41) X3 hx (hb hby d15_38) (x := (1 : Int32)) (v := (2 : Int32)) rfl (by first | rfl | decide) (l' := #[.val (.ref a1), .val (.int (2 : Int32)), .val (.ref a2), .val (.int (2 : Int32)), .val (.int (3 : Int32)), .val (.int (2 : Int32)), .val (.int x1)]) rfl rfl ?_
  refine go_goto (q := 3) X3 hx (hb hby d15_41) (by decide) (by decide) ?_
  refine go_iload (q := 5) X3 hx (hb hby d15_3) (v := (2 : Int32)) rfl rfl ?_
  refine go_iload (q := 7) X3 hx (hb hby d15_5) (v := (3 : Int32)) rfl rfl ?_
  refine go_icmpN (q := 10) X3 hx (hb hby d15_7) (XT.ii_ge_f (by decide)) rfl ?_
  refine go_aload_n (q := 11) X3 hx (hb hby d15_10) (v := (.ref a1)) rfl rfl rfl ?_
  refine go_iload_n (q := 12) X3 hx (hb hby d15_11) (v := (2 : Int32)) rfl rfl ?_
  have f4 : Arv Z h3 a1 kc .char (3 : Int32) [(.int x0), (.int x1), (.int x2)] dc := (f2.other W3 ne_2)
  refine go_caload (q := 13) (j := (2 : Int32)) (v := (.int x2)) X3 hx hZ e3 f4 (by decide) rfl (hb hby d15_12) rfl ?_
  refine go_istore (q := 15) X3 hx (hb hby d15_13) (l' := #[.val (.ref a1), .val (.int (2 : Int32)), .val (.ref a2), .val (.int (2 : Int32)), .val (.int (3 : Int32)), .val (.int (2 : Int32)), .val (.int x2)]) rfl rfl ?_
  refine go_iload (q := 17) X3 hx (hb hby d15_15) (v := x2) rfl rfl ?_
  refine go_sipush (q := 20) X3 hx (hb hby d15_17) (v := (255 : Int32)) (by decide) rfl ?_
  refine go_icmpY (q := 26) X3 hx (hb hby d15_20) (XT.ii_le_t r_6) (by decide) (by decide) ?_
  refine go_aload_n (q := 27) X3 hx (hb hby d15_26) (v := (.ref a2)) rfl rfl rfl ?_
  refine go_iload_n (q := 28) X3 hx (hb hby d15_27) (v := (2 : Int32)) rfl rfl ?_
  refine go_iload (q := 30) X3 hx (hb hby d15_28) (v := x2) rfl rfl ?_
  refine go_i2b (q := 31) X3 hx (hb hby d15_30) (v := x2.toInt8.toInt32) rfl rfl ?_
  refine go_bastore (q := 32) (j := (2 : Int32)) (i := 2) (vs' := [(.int x0.toInt8.toInt32), (.int x1.toInt8.toInt32), (.int x2.toInt8.toInt32)]) X3 hx hZ e3 A3 (by decide) (by decide) (show (2 : Nat) < 3 by decide) (own_narb _) rfl (hb hby d15_31) rfl ?_
  intro T5 h5 X5 e5 W5 A5
  have N5 := Fr.snoc X5 N3 g_3
  refine go_iinc (q := 35) X5 hx (hb hby d15_32) (x := (2 : Int32)) (v := (3 : Int32)) rfl (by first | rfl | decide) (l' := #[.val (.ref a1), .val (.int (3 : Int32)), .val (.ref a2), .val (.int (2 : Int32)), .val (.int (3 : Int32)), .val (.int (2 : Int32)), .val (.int x2)]) rfl rfl ?_
  refine go_iinc (q := 38) X5 hx (hb hby d15_35) (x := (2 : Int32)) (v := (3 : Int32)) rfl (by first | rfl | decide) (l' := #[.val (.ref a1), .val (.int (3 : Int32)), .val (.ref a2), .val (.int (3 : Int32)), .val (.int (3 : Int32)), .val (.int (2 : Int32)), .val (.int x2)]) rfl rfl ?_
  refine go_iinc (q := 41) X5 hx (hb hby d15_38) (x := (2 : Int32)) (v := (3 : Int32)) rfl (by first | rfl | decide) (l' := #[.val (.ref a1), .val (.int (3 : Int32)), .val (.ref a2), .val (.int (3 : Int32)), .val (.int (3 : Int32)), .val (.int (3 : Int32)), .val (.int x2)]) rfl rfl ?_
  refine go_goto (q := 3) X5 hx (hb hby d15_41) (by decide) (by decide) ?_
  refine go_iload (q := 5) X5 hx (hb hby d15_3) (v := (3 : Int32)) rfl rfl ?_
  refine go_iload (q := 7) X5 hx (hb hby d15_5) (v := (3 : Int32)) rfl rfl ?_
  refine go_icmpY (q := 44) X5 hx (hb hby d15_7) (XT.ii_ge_t (by decide)) (by decide) (by decide) ?_
  refine go_iload (q := 46) X5 hx (hb hby d15_44) (v := (3 : Int32)) rfl rfl ?_
  refine go_retI X5 hx hret hlk e5 (hb hby d15_46) (by simp) rfl (by decide) (by decide) ?_
  exact ⟨rfl, N5, ((((Keep.refl h0 [a2]).wr W1 (Or.inl (List.mem_of_getElem? (i := 0) rfl))).wr W3 (Or.inl (List.mem_of_getElem? (i := 0) rfl))).wr W5 (Or.inl (List.mem_of_getElem? (i := 0) rfl))), A5⟩
set_option maxRecDepth 65536 in
set_option maxHeartbeats 40000000 in
theorem b14_2 (l : Launch) (Z : State) (a0 : Array Value) (hw : ∀ d ∈ tables_1, d.before a0 Z = true) (a1 : Addr) (kc : ClassId) (dc : Value) (x0 : Int32) (x1 : Int32) (x2 : Int32) (h0 : Heap) (n0 : Nat) (O0 : Old Z n0 h0) (A_0 : Arv Z h0 a1 kc .char (3 : Int32) [(.int x0), (.int x1), (.int x2)] dc) (r_1 : (¬ (255 : Int32) < x0)) (r_2 : (¬ (255 : Int32) < x1)) (r_3 : (¬ (255 : Int32) < x2)) :
    Con l Z (⟨"java/lang/StringUTF16", "compress", "([CII)[B"⟩ : MethodName) jdk_52_method_16_code 6 (some (.array .byte)) ({ frames := 1, cells := 1, slots := 3, locals := 18 } : Room) #[(.ref a1), (.int (0 : Int32)), (.int (3 : Int32))] h0 (fun v h L => ∃ (r : Addr) (kb : ClassId), v = some (.ref r) ∧ Fr n0 L ∧ Keep h0 h [] ∧ h0.size ≤ r ∧ Arv Z h r kb .byte (3 : Int32) [(.int x0.toInt8.toInt32), (.int x1.toInt8.toInt32), (.int x2.toInt8.toInt32)] (.int (0 : Int32))) := by
  refine Con.of (plainFor_of_name pn_0) ?_
  intro p e s m below meth c s₁ hx hby hml hZ hown hnm hret hlk X0 e0
  have N0 := Fr.nil n0
  refine go_cast (g' := mkF m 0 #[.val (.ref a1), .val (.int (0 : Int32)), .val (.int (3 : Int32)), .unset, .unset, .unset] []) ?_ (by first | (simp [entryFrame, mkF, argsToLocals, Value.category]; done) | rfl)
  refine go_iload_n (q := 1) X0 hx (hb hby d14_0) (v := (3 : Int32)) rfl rfl ?_
  refine go_newP (q := 3) (ty := .byte) (cap := 3) (vs := [(.int (0 : Int32)), (.int (0 : Int32)), (.int (0 : Int32))]) (dv := (.int (0 : Int32))) X0 hx hZ rfl (w16 hw) e0 (hb hby d14_1) (by decide) (by decide) (by decide) (by decide) (by decide) rfl rfl rfl ?_
  intro T1 h1 ob1 k1 g1 X1 e1 E1 A1
  have fr1 : n0 ≤ ob1 := own_ge O0 g1
  have sn1 : h0.size ≤ ob1 := g1 ▸ (Nat.le_refl _)
  have ne_a1_ob1 : a1 ≠ ob1 := own_lt g1 A_0.lt
  refine go_astore_n (q := 4) X1 hx (hb hby d14_3) rfl (l' := #[.val (.ref a1), .val (.int (0 : Int32)), .val (.int (3 : Int32)), .val (.ref ob1), .unset, .unset]) rfl rfl ?_
  refine go_aload_n (q := 5) X1 hx (hb hby d14_4) (v := (.ref a1)) rfl rfl rfl ?_
  refine go_iload_n (q := 6) X1 hx (hb hby d14_5) (v := (0 : Int32)) rfl rfl ?_
  refine go_aload_n (q := 7) X1 hx (hb hby d14_6) (v := (.ref ob1)) rfl rfl rfl ?_
  refine go_iconst (q := 8) X1 hx (hb hby d14_7) (v := (0 : Int32)) (by decide) rfl ?_
  refine go_iload_n (q := 9) X1 hx (hb hby d14_8) (v := (3 : Int32)) rfl rfl ?_
  have f2 : Arv Z h1 a1 kc .char (3 : Int32) [(.int x0), (.int x1), (.int x2)] dc := (A_0.ext E1)
  have O3 : Old Z n0 h1 := (O0.ext E1)
  refine go_static (q := 12) X1 hx hZ hown (y := (⟨"java/lang/StringUTF16", "compress", "([CI[BII)I"⟩ : MethodName)) (w71 hw) (w72 hw) (w69 hw) (w73 hw) (by decide) e1 (b15_2 l Z a0 hw a1 kc dc ob1 k1 x0 x1 x2 h1 n0 O3 f2 A1 ne_a1_ob1 fr1 r_1 r_2 r_3) (argsL := [(.ref a1), (.int (0 : Int32)), (.ref ob1), (.int (0 : Int32)), (.int (3 : Int32))]) (rest := []) rfl (lenOf pd_0 rfl) rfl (by rw [hml]; rfl) (W := 0) (Nat.le_of_eq rfl) (hb hby d14_9) (by decide) (by decide) (by decide) (by decide) rfl ?_
  rintro T4 h4 _ L4 X4 e4 ⟨rfl, M4, K4, p4_0⟩
  have N4 := Fr.app N0 M4
  refine go_istore (q := 14) X4 hx (hb hby d14_12) (l' := #[.val (.ref a1), .val (.int (0 : Int32)), .val (.int (3 : Int32)), .val (.ref ob1), .val (.int (3 : Int32)), .unset]) rfl rfl ?_
  refine go_iload (q := 16) X4 hx (hb hby d14_14) (v := (3 : Int32)) rfl rfl ?_
  refine go_iload_n (q := 17) X4 hx (hb hby d14_16) (v := (3 : Int32)) rfl rfl ?_
  refine go_icmpY (q := 57) X4 hx (hb hby d14_17) (XT.ii_eq_t (by decide)) (by decide) (by decide) ?_
  refine go_aload_n (q := 58) X4 hx (hb hby d14_57) (v := (.ref ob1)) rfl rfl rfl ?_
  refine go_retA X4 hx hret hlk e4 (hb hby d14_58) rfl rfl rfl (by decide) (by decide) ?_
  exact ⟨ob1, k1, rfl, N4, (((Keep.refl h0 []).ext E1).trans K4 (allS (P := fun x => x ∈ [] ∨ h0.size ≤ x) (Or.inr sn1) all0)), sn1, p4_0⟩
set_option maxRecDepth 65536 in
set_option maxHeartbeats 40000000 in
theorem b16_2 (l : Launch) (Z : State) (a0 : Array Value) (hw : ∀ d ∈ tables_1, d.before a0 Z = true) (a1 : Addr) (kb : ClassId) (vs : List Value) (h0 : Heap) (n0 : Nat) (O0 : Old Z n0 h0) (A_0 : Arv Z h0 a1 kb .byte (3 : Int32) vs (.int (0 : Int32))) :
    Con l Z (⟨"java/lang/StringUTF16", "coderFromArrayLen", "([BI)B"⟩ : MethodName) jdk_52_method_15_code 2 (some .byte) ({ frames := 0, cells := 0, slots := 0, locals := 0 } : Room) #[(.ref a1), (.int (3 : Int32))] h0 (fun v h L => v = some (.int (0 : Int32)) ∧ Fr n0 L ∧ Keep h0 h []) := by
  refine Con.of (plainFor_of_name pn_0) ?_
  intro p e s m below meth c s₁ hx hby hml hZ hown hnm hret hlk X0 e0
  have N0 := Fr.nil n0
  refine go_cast (g' := mkF m 0 #[.val (.ref a1), .val (.int (3 : Int32))] []) ?_ (by first | (simp [entryFrame, mkF, argsToLocals, Value.category]; done) | rfl)
  refine go_iload_n (q := 1) X0 hx (hb hby d16_0) (v := (3 : Int32)) rfl rfl ?_
  refine go_aload_n (q := 2) X0 hx (hb hby d16_1) (v := (.ref a1)) rfl rfl rfl ?_
  refine go_alen (q := 3) X0 hx hZ e0 A_0 (hb hby d16_2) rfl ?_
  refine go_isub (q := 4) X0 hx (hb hby d16_3) (v := (0 : Int32)) (by decide) rfl ?_
  refine go_bipush (q := 6) X0 hx (hb hby d16_4) (v := (31 : Int32)) (by decide) rfl ?_
  refine go_iushr (q := 7) X0 hx (hb hby d16_6) (v := (0 : Int32)) (by decide) rfl ?_
  refine go_i2b (q := 8) X0 hx (hb hby d16_7) (v := (0 : Int32)) (by decide) rfl ?_
  refine go_retI X0 hx hret hlk e0 (hb hby d16_8) (by simp) (by decide) (by decide) (by decide) ?_
  exact ⟨rfl, N0, (Keep.refl h0 [])⟩
set_option maxRecDepth 65536 in
set_option maxHeartbeats 40000000 in
theorem b2_2 (l : Launch) (Z : State) (a0 : Array Value) (hw : ∀ d ∈ tables_1, d.before a0 Z = true) (a1 : Addr) (a2 : Addr) (u1 : Value) (u2 : Value) (kc : ClassId) (dc : Value) (zc : Int32) (x0 : Int32) (x1 : Int32) (x2 : Int32) (h0 : Heap) (n0 : Nat) (O0 : Old Z n0 h0) (E_0 : Exa Z h0 a1 "java/lang/String") (F_1 : Fld Z h0 a1 "java/lang/String" "value" "[B" u1) (F_2 : Fld Z h0 a1 "java/lang/String" "coder" "B" u2) (g_3 : n0 ≤ a1) (A_4 : Arv Z h0 a2 kc .char (3 : Int32) [(.int x0), (.int x1), (.int x2)] dc) (S_5 : Sta Z Z.heap "java/lang/String" "COMPACT_STRINGS" "Z" (.int zc)) (r_6 : (¬ zc = 0)) (r_7 : (¬ (255 : Int32) < x0)) (r_8 : (¬ (255 : Int32) < x1)) (r_9 : (¬ (255 : Int32) < x2)) :
    Con l Z (⟨"java/lang/String", "<init>", "([CIILjava/lang/Void;)V"⟩ : MethodName) jdk_42_method_149_code 6 none ({ frames := 2, cells := 1, slots := 3, locals := 35 } : Room) #[(.ref a1), (.ref a2), (.int (0 : Int32)), (.int (3 : Int32)), .null] h0 (fun v h L => ∃ (r : Addr) (kb : ClassId), v = none ∧ Fr n0 L ∧ Keep h0 h [a1] ∧ h0.size ≤ r ∧ Exa Z h a1 "java/lang/String" ∧ Fld Z h a1 "java/lang/String" "coder" "B" (.int (0 : Int32)) ∧ Fld Z h a1 "java/lang/String" "value" "[B" (.ref r) ∧ Arv Z h r kb .byte (3 : Int32) [(.int x0.toInt8.toInt32), (.int x1.toInt8.toInt32), (.int x2.toInt8.toInt32)] (.int (0 : Int32))) := by
  refine Con.of (plainFor_of_name pn_1) ?_
  intro p e s m below meth c s₁ hx hby hml hZ hown hnm hret hlk X0 e0
  have N0 := Fr.nil n0
  refine go_cast (g' := mkF m 0 #[.val (.ref a1), .val (.ref a2), .val (.int (0 : Int32)), .val (.int (3 : Int32)), .val .null, .unset] []) ?_ (by first | (simp [entryFrame, mkF, argsToLocals, Value.category]; done) | rfl)
  refine go_aload_n (q := 1) X0 hx (hb hby d2_0) (v := (.ref a1)) rfl rfl rfl ?_
  refine go_initO (q := 4) (W := 0) X0 hx hZ hown (w12 hw) (w13 hw) (w14 hw) e0 (by rw [hml]; rfl) (hb hby d2_1) (by decide) (Nat.le_of_eq rfl) (by decide) rfl ?_
  intro T1 X1 e1
  refine go_iload_n (q := 5) X1 hx (hb hby d2_4) (v := (3 : Int32)) rfl rfl ?_
  refine go_ifY (q := 27) X1 hx (hb hby d2_5) (XT.i0_ne_t (by decide)) (by decide) (by decide) ?_
  refine go_getS (q := 30) (host := "") X1 hx hZ hown (Or.inl (w42 hw)) Via.refl e1 (Sta.ext O0.2 S_5) (hb hby d2_27) rfl ?_
  intro T2 X2 e2
  refine go_ifN (q := 33) X2 hx (hb hby d2_30) (XT.i0_eq_f r_6) rfl ?_
  refine go_aload_n (q := 34) X2 hx (hb hby d2_33) (v := (.ref a2)) rfl rfl rfl ?_
  refine go_iload_n (q := 35) X2 hx (hb hby d2_34) (v := (0 : Int32)) rfl rfl ?_
  refine go_iload_n (q := 36) X2 hx (hb hby d2_35) (v := (3 : Int32)) rfl rfl ?_
  refine go_static (q := 39) X2 hx hZ hown (y := (⟨"java/lang/StringUTF16", "compress", "([CII)[B"⟩ : MethodName)) (w67 hw) (w68 hw) (w69 hw) (w70 hw) (by decide) e2 (b14_2 l Z a0 hw a2 kc dc x0 x1 x2 h0 n0 O0 A_4 r_7 r_8 r_9) (argsL := [(.ref a2), (.int (0 : Int32)), (.int (3 : Int32))]) (rest := []) rfl (lenOf pd_1 rfl) rfl (by rw [hml]; rfl) (W := 0) (Nat.le_of_eq rfl) (hb hby d2_36) (by decide) (by decide) (by decide) (by decide) rfl ?_
  rintro T3 h3 _ L3 X3 e3 ⟨r_3, kb_3, rfl, M3, K3, p3_0, p3_1⟩
  have N3 := Fr.app N0 M3
  have fr_r_3 : n0 ≤ r_3 := Nat.le_trans (own_le O0) p3_0
  have sn_r_3 : h0.size ≤ r_3 := Nat.le_trans (Nat.le_refl _) p3_0
  have ne_a1_r_3 : a1 ≠ r_3 := own_ltg p3_0 F_2.lt
  have ne_a2_r_3 : a2 ≠ r_3 := own_ltg p3_0 A_4.lt
  refine go_astore (q := 41) X3 hx (hb hby d2_39) rfl (l' := #[.val (.ref a1), .val (.ref a2), .val (.int (0 : Int32)), .val (.int (3 : Int32)), .val .null, .val (.ref r_3)]) rfl rfl ?_
  refine go_aload_n (q := 42) X3 hx (hb hby d2_41) (v := (.ref a1)) rfl rfl rfl ?_
  refine go_aload (q := 44) X3 hx (hb hby d2_42) (v := (.ref r_3)) rfl rfl rfl ?_
  refine go_iload_n (q := 45) X3 hx (hb hby d2_44) (v := (3 : Int32)) rfl rfl ?_
  have O4 : Old Z n0 h3 := (O0.keep K3 all0)
  refine go_static (q := 48) X3 hx hZ hown (y := (⟨"java/lang/StringUTF16", "coderFromArrayLen", "([BI)B"⟩ : MethodName)) (w74 hw) (w75 hw) (w69 hw) (w76 hw) (by decide) e3 (b16_2 l Z a0 hw r_3 kb_3 [(.int x0.toInt8.toInt32), (.int x1.toInt8.toInt32), (.int x2.toInt8.toInt32)] h3 n0 O4 p3_1) (argsL := [(.ref r_3), (.int (3 : Int32))]) (rest := [(.ref a1)]) rfl (lenOf pd_2 rfl) rfl (by rw [hml]; rfl) (W := 1) (Nat.le_of_eq rfl) (hb hby d2_45) (by decide) (by decide) (by decide) (by decide) rfl ?_
  rintro T5 h5 _ L5 X5 e5 ⟨rfl, M5, K5⟩
  have N5 := Fr.app N3 M5
  have f6 : Exa Z h5 a1 "java/lang/String" := ((E_0.keep K3).keep K5)
  have f7 : Fld Z h5 a1 "java/lang/String" "coder" "B" u2 := ((F_2.keep K3 nin0).keep K5 nin0)
  refine go_putF (q := 51) (host := "") X5 hx hZ hown (Or.inl (w22 hw)) Via.refl e5 f7 f6 (Or.inr ⟨(w18 hw), rfl, hnm⟩) (w3 hw) (ty := .byte) (by decide) (by decide) (by decide) (hb hby d2_48) rfl ?_
  intro T8 h8 X8 e8 W8
  have N8 := Fr.snoc X8 N5 g_3
  have F8 : Fld Z h8 a1 "java/lang/String" "coder" "B" (.int (0 : Int32)) := f7.same W8
  refine go_aload_n (q := 52) X8 hx (hb hby d2_51) (v := (.ref a1)) rfl rfl rfl ?_
  refine go_aload (q := 54) X8 hx (hb hby d2_52) (v := (.ref r_3)) rfl rfl rfl ?_
  have f9 : Exa Z h8 a1 "java/lang/String" := (f6.wr W8)
  have f10 : Fld Z h8 a1 "java/lang/String" "value" "[B" u1 := (((F_1.keep K3 nin0).keep K5 nin0).other W8 (Or.inr (slot_ne (Or.inr (w17 hw)) (Or.inr (w18 hw)) (by decide) (t := (.array .byte)) (t' := .byte) (by decide) (by decide))))
  refine go_putF (q := 57) (host := "") X8 hx hZ hown (Or.inl (w21 hw)) Via.refl e8 f10 f9 (Or.inr ⟨(w17 hw), rfl, hnm⟩) (w3 hw) (ty := (.array .byte)) (by decide) rfl rfl (hb hby d2_54) rfl ?_
  intro T11 h11 X11 e11 W11
  have N11 := Fr.snoc X11 N8 g_3
  have F11 : Fld Z h11 a1 "java/lang/String" "value" "[B" (.ref r_3) := f10.same W11
  have f12 : Exa Z h11 a1 "java/lang/String" := (f9.wr W11)
  have f13 : Fld Z h11 a1 "java/lang/String" "coder" "B" (.int (0 : Int32)) := (F8.other W11 (Or.inr (slot_ne (Or.inr (w18 hw)) (Or.inr (w17 hw)) (by decide) (t := .byte) (t' := (.array .byte)) (by decide) (by decide))))
  have f14 : Arv Z h11 r_3 kb_3 .byte (3 : Int32) [(.int x0.toInt8.toInt32), (.int x1.toInt8.toInt32), (.int x2.toInt8.toInt32)] (.int (0 : Int32)) := (((p3_1.keep K5 nin0).other W8 (Ne.symm ne_a1_r_3)).other W11 (Ne.symm ne_a1_r_3))
  refine go_ret0 X11 hx hret hlk e11 (hb hby d2_57) (by decide) (by decide) ?_
  exact ⟨r_3, kb_3, rfl, N11, (((((Keep.refl h0 [a1]).trans K3 all0).trans K5 all0).wr W8 (Or.inl (List.mem_of_getElem? (i := 0) rfl))).wr W11 (Or.inl (List.mem_of_getElem? (i := 0) rfl))), sn_r_3, f12, f13, F11, f14⟩
set_option maxRecDepth 65536 in
set_option maxHeartbeats 40000000 in
theorem b1_2 (l : Launch) (Z : State) (a0 : Array Value) (hw : ∀ d ∈ tables_1, d.before a0 Z = true) (a1 : Addr) (a2 : Addr) (u1 : Value) (u2 : Value) (kc : ClassId) (dc : Value) (zc : Int32) (x0 : Int32) (x1 : Int32) (x2 : Int32) (h0 : Heap) (n0 : Nat) (O0 : Old Z n0 h0) (E_0 : Exa Z h0 a1 "java/lang/String") (F_1 : Fld Z h0 a1 "java/lang/String" "value" "[B" u1) (F_2 : Fld Z h0 a1 "java/lang/String" "coder" "B" u2) (g_3 : n0 ≤ a1) (A_4 : Arv Z h0 a2 kc .char (3 : Int32) [(.int x0), (.int x1), (.int x2)] dc) (S_5 : Sta Z Z.heap "java/lang/String" "COMPACT_STRINGS" "Z" (.int zc)) (r_6 : (¬ zc = 0)) (r_7 : (¬ (255 : Int32) < x0)) (r_8 : (¬ (255 : Int32) < x1)) (r_9 : (¬ (255 : Int32) < x2)) :
    Con l Z (⟨"java/lang/String", "<init>", "([C)V"⟩ : MethodName) jdk_42_method_3_code 2 none ({ frames := 3, cells := 1, slots := 3, locals := 52 } : Room) #[(.ref a1), (.ref a2)] h0 (fun v h L => ∃ (r : Addr) (kb : ClassId), v = none ∧ Fr n0 L ∧ Keep h0 h [a1] ∧ h0.size ≤ r ∧ Exa Z h a1 "java/lang/String" ∧ Fld Z h a1 "java/lang/String" "coder" "B" (.int (0 : Int32)) ∧ Fld Z h a1 "java/lang/String" "value" "[B" (.ref r) ∧ Arv Z h r kb .byte (3 : Int32) [(.int x0.toInt8.toInt32), (.int x1.toInt8.toInt32), (.int x2.toInt8.toInt32)] (.int (0 : Int32))) := by
  refine Con.of (plainFor_of_name pn_1) ?_
  intro p e s m below meth c s₁ hx hby hml hZ hown hnm hret hlk X0 e0
  have N0 := Fr.nil n0
  refine go_cast (g' := mkF m 0 #[.val (.ref a1), .val (.ref a2)] []) ?_ (by first | (simp [entryFrame, mkF, argsToLocals, Value.category]; done) | rfl)
  refine go_aload_n (q := 1) X0 hx (hb hby d1_0) (v := (.ref a1)) rfl rfl rfl ?_
  refine go_aload_n (q := 2) X0 hx (hb hby d1_1) (v := (.ref a2)) rfl rfl rfl ?_
  refine go_iconst (q := 3) X0 hx (hb hby d1_2) (v := (0 : Int32)) (by decide) rfl ?_
  refine go_aload_n (q := 4) X0 hx (hb hby d1_3) (v := (.ref a2)) rfl rfl rfl ?_
  refine go_alen (q := 5) X0 hx hZ e0 A_4 (hb hby d1_4) rfl ?_
  refine go_aconst_null (q := 6) X0 hx (hb hby d1_5)  rfl ?_
  refine go_special (q := 9) X0 hx hZ hown (y := (⟨"java/lang/String", "<init>", "([CIILjava/lang/Void;)V"⟩ : MethodName)) (a := a1) rfl (w8 hw) (w9 hw) (w4 hw) (w11 hw) (by decide) e0 (b2_2 l Z a0 hw a1 a2 u1 u2 kc dc zc x0 x1 x2 h0 n0 O0 E_0 F_1 F_2 g_3 A_4 S_5 r_6 r_7 r_8 r_9) (argsL := [(.ref a2), (.int (0 : Int32)), (.int (3 : Int32)), .null]) (rest := []) rfl (lenOf pd_3 rfl) rfl (by rw [hml]; rfl) (W := 0) (Nat.le_of_eq rfl) (hb hby d1_6) (by decide) (by decide) (by decide) (by decide) rfl ?_
  rintro T1 h1 _ L1 X1 e1 ⟨r_1, kb_1, rfl, M1, K1, p1_0, p1_1, p1_2, p1_3, p1_4⟩
  have N1 := Fr.app N0 M1
  have fr_r_1 : n0 ≤ r_1 := Nat.le_trans (own_le O0) p1_0
  have sn_r_1 : h0.size ≤ r_1 := Nat.le_trans (Nat.le_refl _) p1_0
  have ne_a1_r_1 : a1 ≠ r_1 := own_ltg p1_0 F_2.lt
  have ne_a2_r_1 : a2 ≠ r_1 := own_ltg p1_0 A_4.lt
  refine go_ret0 X1 hx hret hlk e1 (hb hby d1_9) (by decide) (by decide) ?_
  exact ⟨r_1, kb_1, rfl, N1, ((Keep.refl h0 [a1]).trans K1 (allS (P := fun x => x ∈ [a1] ∨ h0.size ≤ x) (Or.inl (List.mem_of_getElem? (i := 0) rfl)) all0)), sn_r_1, p1_1, p1_2, p1_3, p1_4⟩
set_option maxRecDepth 65536 in
set_option maxHeartbeats 40000000 in
theorem b15_3 (l : Launch) (Z : State) (a0 : Array Value) (hw : ∀ d ∈ tables_1, d.before a0 Z = true) (a1 : Addr) (kc : ClassId) (dc : Value) (a2 : Addr) (kb : ClassId) (x0 : Int32) (x1 : Int32) (x2 : Int32) (x3 : Int32) (h0 : Heap) (n0 : Nat) (O0 : Old Z n0 h0) (A_0 : Arv Z h0 a1 kc .char (4 : Int32) [(.int x0), (.int x1), (.int x2), (.int x3)] dc) (A_1 : Arv Z h0 a2 kb .byte (4 : Int32) [(.int (0 : Int32)), (.int (0 : Int32)), (.int (0 : Int32)), (.int (0 : Int32))] (.int (0 : Int32))) (ne_2 : a1 ≠ a2) (g_3 : n0 ≤ a2) (r_4 : (¬ (255 : Int32) < x0)) (r_5 : (¬ (255 : Int32) < x1)) (r_6 : (¬ (255 : Int32) < x2)) (r_7 : (¬ (255 : Int32) < x3)) :
    Con l Z (⟨"java/lang/StringUTF16", "compress", "([CI[BII)I"⟩ : MethodName) jdk_52_method_21_code 7 (some .int) ({ frames := 0, cells := 0, slots := 0, locals := 0 } : Room) #[(.ref a1), (.int (0 : Int32)), (.ref a2), (.int (0 : Int32)), (.int (4 : Int32))] h0 (fun v h L => v = some (.int (4 : Int32)) ∧ Fr n0 L ∧ Keep h0 h [a2] ∧ Arv Z h a2 kb .byte (4 : Int32) [(.int x0.toInt8.toInt32), (.int x1.toInt8.toInt32), (.int x2.toInt8.toInt32), (.int x3.toInt8.toInt32)] (.int (0 : Int32))) := by
  refine Con.of (plainFor_of_name pn_0) ?_
  intro p e s m below meth c s₁ hx hby hml hZ hown hnm hret hlk X0 e0
  have N0 := Fr.nil n0
  refine go_cast (g' := mkF m 0 #[.val (.ref a1), .val (.int (0 : Int32)), .val (.ref a2), .val (.int (0 : Int32)), .val (.int (4 : Int32)), .unset, .unset] []) ?_ (by first | (simp [entryFrame, mkF, argsToLocals, Value.category]; done) | rfl)
  refine go_iconst (q := 1) X0 hx (hb hby d15_0) (v := (0 : Int32)) (by decide) rfl ?_
  refine go_istore (q := 3) X0 hx (hb hby d15_1) (l' := #[.val (.ref a1), .val (.int (0 : Int32)), .val (.ref a2), .val (.int (0 : Int32)), .val (.int (4 : Int32)), .val (.int (0 : Int32)), .unset]) rfl rfl ?_
  refine go_iload (q := 5) X0 hx (hb hby d15_3) (v := (0 : Int32)) rfl rfl ?_
  refine go_iload (q := 7) X0 hx (hb hby d15_5) (v := (4 : Int32)) rfl rfl ?_
  refine go_icmpN (q := 10) X0 hx (hb hby d15_7) (XT.ii_ge_f (by decide)) rfl ?_
  refine go_aload_n (q := 11) X0 hx (hb hby d15_10) (v := (.ref a1)) rfl rfl rfl ?_
  refine go_iload_n (q := 12) X0 hx (hb hby d15_11) (v := (0 : Int32)) rfl rfl ?_
  refine go_caload (q := 13) (j := (0 : Int32)) (v := (.int x0)) X0 hx hZ e0 A_0 (by decide) rfl (hb hby d15_12) rfl ?_
  refine go_istore (q := 15) X0 hx (hb hby d15_13) (l' := #[.val (.ref a1), .val (.int (0 : Int32)), .val (.ref a2), .val (.int (0 : Int32)), .val (.int (4 : Int32)), .val (.int (0 : Int32)), .val (.int x0)]) rfl rfl ?_
  refine go_iload (q := 17) X0 hx (hb hby d15_15) (v := x0) rfl rfl ?_
  refine go_sipush (q := 20) X0 hx (hb hby d15_17) (v := (255 : Int32)) (by decide) rfl ?_
  refine go_icmpY (q := 26) X0 hx (hb hby d15_20) (XT.ii_le_t r_4) (by decide) (by decide) ?_
  refine go_aload_n (q := 27) X0 hx (hb hby d15_26) (v := (.ref a2)) rfl rfl rfl ?_
  refine go_iload_n (q := 28) X0 hx (hb hby d15_27) (v := (0 : Int32)) rfl rfl ?_
  refine go_iload (q := 30) X0 hx (hb hby d15_28) (v := x0) rfl rfl ?_
  refine go_i2b (q := 31) X0 hx (hb hby d15_30) (v := x0.toInt8.toInt32) rfl rfl ?_
  refine go_bastore (q := 32) (j := (0 : Int32)) (i := 0) (vs' := [(.int x0.toInt8.toInt32), (.int (0 : Int32)), (.int (0 : Int32)), (.int (0 : Int32))]) X0 hx hZ e0 A_1 (by decide) (by decide) (show (0 : Nat) < 4 by decide) (own_narb _) rfl (hb hby d15_31) rfl ?_
  intro T1 h1 X1 e1 W1 A1
  have N1 := Fr.snoc X1 N0 g_3
  refine go_iinc (q := 35) X1 hx (hb hby d15_32) (x := (0 : Int32)) (v := (1 : Int32)) rfl (by first | rfl | decide) (l' := #[.val (.ref a1), .val (.int (1 : Int32)), .val (.ref a2), .val (.int (0 : Int32)), .val (.int (4 : Int32)), .val (.int (0 : Int32)), .val (.int x0)]) rfl rfl ?_
  refine go_iinc (q := 38) X1 hx (hb hby d15_35) (x := (0 : Int32)) (v := (1 : Int32)) rfl (by first | rfl | decide) (l' := #[.val (.ref a1), .val (.int (1 : Int32)), .val (.ref a2), .val (.int (1 : Int32)), .val (.int (4 : Int32)), .val (.int (0 : Int32)), .val (.int x0)]) rfl rfl ?_
  refine go_iinc (q := 41) X1 hx (hb hby d15_38) (x := (0 : Int32)) (v := (1 : Int32)) rfl (by first | rfl | decide) (l' := #[.val (.ref a1), .val (.int (1 : Int32)), .val (.ref a2), .val (.int (1 : Int32)), .val (.int (4 : Int32)), .val (.int (1 : Int32)), .val (.int x0)]) rfl rfl ?_
  refine go_goto (q := 3) X1 hx (hb hby d15_41) (by decide) (by decide) ?_
  refine go_iload (q := 5) X1 hx (hb hby d15_3) (v := (1 : Int32)) rfl rfl ?_
  refine go_iload (q := 7) X1 hx (hb hby d15_5) (v := (4 : Int32)) rfl rfl ?_
  refine go_icmpN (q := 10) X1 hx (hb hby d15_7) (XT.ii_ge_f (by decide)) rfl ?_
  refine go_aload_n (q := 11) X1 hx (hb hby d15_10) (v := (.ref a1)) rfl rfl rfl ?_
  refine go_iload_n (q := 12) X1 hx (hb hby d15_11) (v := (1 : Int32)) rfl rfl ?_
  have f2 : Arv Z h1 a1 kc .char (4 : Int32) [(.int x0), (.int x1), (.int x2), (.int x3)] dc := (A_0.other W1 ne_2)
  refine go_caload (q := 13) (j := (1 : Int32)) (v := (.int x1)) X1 hx hZ e1 f2 (by decide) rfl (hb hby d15_12) rfl ?_
  refine go_istore (q := 15) X1 hx (hb hby d15_13) (l' := #[.val (.ref a1), .val (.int (1 : Int32)), .val (.ref a2), .val (.int (1 : Int32)), .val (.int (4 : Int32)), .val (.int (1 : Int32)), .val (.int x1)]) rfl rfl ?_
  refine go_iload (q := 17) X1 hx (hb hby d15_15) (v := x1) rfl rfl ?_
  refine go_sipush (q := 20) X1 hx (hb hby d15_17) (v := (255 : Int32)) (by decide) rfl ?_
  refine go_icmpY (q := 26) X1 hx (hb hby d15_20) (XT.ii_le_t r_5) (by decide) (by decide) ?_
  refine go_aload_n (q := 27) X1 hx (hb hby d15_26) (v := (.ref a2)) rfl rfl rfl ?_
  refine go_iload_n (q := 28) X1 hx (hb hby d15_27) (v := (1 : Int32)) rfl rfl ?_
  refine go_iload (q := 30) X1 hx (hb hby d15_28) (v := x1) rfl rfl ?_
  refine go_i2b (q := 31) X1 hx (hb hby d15_30) (v := x1.toInt8.toInt32) rfl rfl ?_
  refine go_bastore (q := 32) (j := (1 : Int32)) (i := 1) (vs' := [(.int x0.toInt8.toInt32), (.int x1.toInt8.toInt32), (.int (0 : Int32)), (.int (0 : Int32))]) X1 hx hZ e1 A1 (by decide) (by decide) (show (1 : Nat) < 4 by decide) (own_narb _) rfl (hb hby d15_31) rfl ?_
  intro T3 h3 X3 e3 W3 A3
  have N3 := Fr.snoc X3 N1 g_3
  refine go_iinc (q := 35) X3 hx (hb hby d15_32) (x := (1 : Int32)) (v := (2 : Int32)) rfl (by first | rfl | decide) (l' := #[.val (.ref a1), .val (.int (2 : Int32)), .val (.ref a2), .val (.int (1 : Int32)), .val (.int (4 : Int32)), .val (.int (1 : Int32)), .val (.int x1)]) rfl rfl ?_
  refine go_iinc (q := 38) X3 hx (hb hby d15_35) (x := (1 : Int32)) (v := (2 : Int32)) rfl (by first | rfl | decide) (l' := #[.val (.ref a1), .val (.int (2 : Int32)), .val (.ref a2), .val (.int (2 : Int32)), .val (.int (4 : Int32)), .val (.int (1 : Int32)), .val (.int x1)]) rfl rfl ?_
  refine go_iinc (q := 41) X3 hx (hb hby d15_38) (x := (1 : Int32)) (v := (2 : Int32)) rfl (by first | rfl | decide) (l' := #[.val (.ref a1), .val (.int (2 : Int32)), .val (.ref a2), .val (.int (2 : Int32)), .val (.int (4 : Int32)), .val (.int (2 : Int32)), .val (.int x1)]) rfl rfl ?_
  refine go_goto (q := 3) X3 hx (hb hby d15_41) (by decide) (by decide) ?_
  refine go_iload (q := 5) X3 hx (hb hby d15_3) (v := (2 : Int32)) rfl rfl ?_
  refine go_iload (q := 7) X3 hx (hb hby d15_5) (v := (4 : Int32)) rfl rfl ?_
  refine go_icmpN (q := 10) X3 hx (hb hby d15_7) (XT.ii_ge_f (by decide)) rfl ?_
  refine go_aload_n (q := 11) X3 hx (hb hby d15_10) (v := (.ref a1)) rfl rfl rfl ?_
  refine go_iload_n (q := 12) X3 hx (hb hby d15_11) (v := (2 : Int32)) rfl rfl ?_
  have f4 : Arv Z h3 a1 kc .char (4 : Int32) [(.int x0), (.int x1), (.int x2), (.int x3)] dc := (f2.other W3 ne_2)
  refine go_caload (q := 13) (j := (2 : Int32)) (v := (.int x2)) X3 hx hZ e3 f4 (by decide) rfl (hb hby d15_12) rfl ?_
  refine go_istore (q := 15) X3 hx (hb hby d15_13) (l' := #[.val (.ref a1), .val (.int (2 : Int32)), .val (.ref a2), .val (.int (2 : Int32)), .val (.int (4 : Int32)), .val (.int (2 : Int32)), .val (.int x2)]) rfl rfl ?_
  refine go_iload (q := 17) X3 hx (hb hby d15_15) (v := x2) rfl rfl ?_
  refine go_sipush (q := 20) X3 hx (hb hby d15_17) (v := (255 : Int32)) (by decide) rfl ?_
  refine go_icmpY (q := 26) X3 hx (hb hby d15_20) (XT.ii_le_t r_6) (by decide) (by decide) ?_
  refine go_aload_n (q := 27) X3 hx (hb hby d15_26) (v := (.ref a2)) rfl rfl rfl ?_
  refine go_iload_n (q := 28) X3 hx (hb hby d15_27) (v := (2 : Int32)) rfl rfl ?_
  refine go_iload (q := 30) X3 hx (hb hby d15_28) (v := x2) rfl rfl ?_
  refine go_i2b (q := 31) X3 hx (hb hby d15_30) (v := x2.toInt8.toInt32) rfl rfl ?_
  refine go_bastore (q := 32) (j := (2 : Int32)) (i := 2) (vs' := [(.int x0.toInt8.toInt32), (.int x1.toInt8.toInt32), (.int x2.toInt8.toInt32), (.int (0 : Int32))]) X3 hx hZ e3 A3 (by decide) (by decide) (show (2 : Nat) < 4 by decide) (own_narb _) rfl (hb hby d15_31) rfl ?_
  intro T5 h5 X5 e5 W5 A5
  have N5 := Fr.snoc X5 N3 g_3
  refine go_iinc (q := 35) X5 hx (hb hby d15_32) (x := (2 : Int32)) (v := (3 : Int32)) rfl (by first | rfl | decide) (l' := #[.val (.ref a1), .val (.int (3 : Int32)), .val (.ref a2), .val (.int (2 : Int32)), .val (.int (4 : Int32)), .val (.int (2 : Int32)), .val (.int x2)]) rfl rfl ?_
  refine go_iinc (q := 38) X5 hx (hb hby d15_35) (x := (2 : Int32)) (v := (3 : Int32)) rfl (by first | rfl | decide) (l' := #[.val (.ref a1), .val (.int (3 : Int32)), .val (.ref a2), .val (.int (3 : Int32)), .val (.int (4 : Int32)), .val (.int (2 : Int32)), .val (.int x2)]) rfl rfl ?_
  refine go_iinc (q := 41) X5 hx (hb hby d15_38) (x := (2 : Int32)) (v := (3 : Int32)) rfl (by first | rfl | decide) (l' := #[.val (.ref a1), .val (.int (3 : Int32)), .val (.ref a2), .val (.int (3 : Int32)), .val (.int (4 : Int32)), .val (.int (3 : Int32)), .val (.int x2)]) rfl rfl ?_
  refine go_goto (q := 3) X5 hx (hb hby d15_41) (by decide) (by decide) ?_
  refine go_iload (q := 5) X5 hx (hb hby d15_3) (v := (3 : Int32)) rfl rfl ?_
  refine go_iload (q := 7) X5 hx (hb hby d15_5) (v := (4 : Int32)) rfl rfl ?_
  refine go_icmpN (q := 10) X5 hx (hb hby d15_7) (XT.ii_ge_f (by decide)) rfl ?_
  refine go_aload_n (q := 11) X5 hx (hb hby d15_10) (v := (.ref a1)) rfl rfl rfl ?_
  refine go_iload_n (q := 12) X5 hx (hb hby d15_11) (v := (3 : Int32)) rfl rfl ?_
  have f6 : Arv Z h5 a1 kc .char (4 : Int32) [(.int x0), (.int x1), (.int x2), (.int x3)] dc := (f4.other W5 ne_2)
  refine go_caload (q := 13) (j := (3 : Int32)) (v := (.int x3)) X5 hx hZ e5 f6 (by decide) rfl (hb hby d15_12) rfl ?_
  refine go_istore (q := 15) X5 hx (hb hby d15_13) (l' := #[.val (.ref a1), .val (.int (3 : Int32)), .val (.ref a2), .val (.int (3 : Int32)), .val (.int (4 : Int32)), .val (.int (3 : Int32)), .val (.int x3)]) rfl rfl ?_
  refine go_iload (q := 17) X5 hx (hb hby d15_15) (v := x3) rfl rfl ?_
  refine go_sipush (q := 20) X5 hx (hb hby d15_17) (v := (255 : Int32)) (by decide) rfl ?_
  refine go_icmpY (q := 26) X5 hx (hb hby d15_20) (XT.ii_le_t r_7) (by decide) (by decide) ?_
  refine go_aload_n (q := 27) X5 hx (hb hby d15_26) (v := (.ref a2)) rfl rfl rfl ?_
  refine go_iload_n (q := 28) X5 hx (hb hby d15_27) (v := (3 : Int32)) rfl rfl ?_
  refine go_iload (q := 30) X5 hx (hb hby d15_28) (v := x3) rfl rfl ?_
  refine go_i2b (q := 31) X5 hx (hb hby d15_30) (v := x3.toInt8.toInt32) rfl rfl ?_
  refine go_bastore (q := 32) (j := (3 : Int32)) (i := 3) (vs' := [(.int x0.toInt8.toInt32), (.int x1.toInt8.toInt32), (.int x2.toInt8.toInt32), (.int x3.toInt8.toInt32)]) X5 hx hZ e5 A5 (by decide) (by decide) (show (3 : Nat) < 4 by decide) (own_narb _) rfl (hb hby d15_31) rfl ?_
  intro T7 h7 X7 e7 W7 A7
  have N7 := Fr.snoc X7 N5 g_3
  refine go_iinc (q := 35) X7 hx (hb hby d15_32) (x := (3 : Int32)) (v := (4 : Int32)) rfl (by first | rfl | decide) (l' := #[.val (.ref a1), .val (.int (4 : Int32)), .val (.ref a2), .val (.int (3 : Int32)), .val (.int (4 : Int32)), .val (.int (3 : Int32)), .val (.int x3)]) rfl rfl ?_
  refine go_iinc (q := 38) X7 hx (hb hby d15_35) (x := (3 : Int32)) (v := (4 : Int32)) rfl (by first | rfl | decide) (l' := #[.val (.ref a1), .val (.int (4 : Int32)), .val (.ref a2), .val (.int (4 : Int32)), .val (.int (4 : Int32)), .val (.int (3 : Int32)), .val (.int x3)]) rfl rfl ?_
  refine go_iinc (q := 41) X7 hx (hb hby d15_38) (x := (3 : Int32)) (v := (4 : Int32)) rfl (by first | rfl | decide) (l' := #[.val (.ref a1), .val (.int (4 : Int32)), .val (.ref a2), .val (.int (4 : Int32)), .val (.int (4 : Int32)), .val (.int (4 : Int32)), .val (.int x3)]) rfl rfl ?_
  refine go_goto (q := 3) X7 hx (hb hby d15_41) (by decide) (by decide) ?_
  refine go_iload (q := 5) X7 hx (hb hby d15_3) (v := (4 : Int32)) rfl rfl ?_
  refine go_iload (q := 7) X7 hx (hb hby d15_5) (v := (4 : Int32)) rfl rfl ?_
  refine go_icmpY (q := 44) X7 hx (hb hby d15_7) (XT.ii_ge_t (by decide)) (by decide) (by decide) ?_
  refine go_iload (q := 46) X7 hx (hb hby d15_44) (v := (4 : Int32)) rfl rfl ?_
  refine go_retI X7 hx hret hlk e7 (hb hby d15_46) (by simp) rfl (by decide) (by decide) ?_
  exact ⟨rfl, N7, (((((Keep.refl h0 [a2]).wr W1 (Or.inl (List.mem_of_getElem? (i := 0) rfl))).wr W3 (Or.inl (List.mem_of_getElem? (i := 0) rfl))).wr W5 (Or.inl (List.mem_of_getElem? (i := 0) rfl))).wr W7 (Or.inl (List.mem_of_getElem? (i := 0) rfl))), A7⟩
set_option maxRecDepth 65536 in
set_option maxHeartbeats 40000000 in
theorem b14_3 (l : Launch) (Z : State) (a0 : Array Value) (hw : ∀ d ∈ tables_1, d.before a0 Z = true) (a1 : Addr) (kc : ClassId) (dc : Value) (x0 : Int32) (x1 : Int32) (x2 : Int32) (x3 : Int32) (h0 : Heap) (n0 : Nat) (O0 : Old Z n0 h0) (A_0 : Arv Z h0 a1 kc .char (4 : Int32) [(.int x0), (.int x1), (.int x2), (.int x3)] dc) (r_1 : (¬ (255 : Int32) < x0)) (r_2 : (¬ (255 : Int32) < x1)) (r_3 : (¬ (255 : Int32) < x2)) (r_4 : (¬ (255 : Int32) < x3)) :
    Con l Z (⟨"java/lang/StringUTF16", "compress", "([CII)[B"⟩ : MethodName) jdk_52_method_16_code 6 (some (.array .byte)) ({ frames := 1, cells := 1, slots := 4, locals := 18 } : Room) #[(.ref a1), (.int (0 : Int32)), (.int (4 : Int32))] h0 (fun v h L => ∃ (r : Addr) (kb : ClassId), v = some (.ref r) ∧ Fr n0 L ∧ Keep h0 h [] ∧ h0.size ≤ r ∧ Arv Z h r kb .byte (4 : Int32) [(.int x0.toInt8.toInt32), (.int x1.toInt8.toInt32), (.int x2.toInt8.toInt32), (.int x3.toInt8.toInt32)] (.int (0 : Int32))) := by
  refine Con.of (plainFor_of_name pn_0) ?_
  intro p e s m below meth c s₁ hx hby hml hZ hown hnm hret hlk X0 e0
  have N0 := Fr.nil n0
  refine go_cast (g' := mkF m 0 #[.val (.ref a1), .val (.int (0 : Int32)), .val (.int (4 : Int32)), .unset, .unset, .unset] []) ?_ (by first | (simp [entryFrame, mkF, argsToLocals, Value.category]; done) | rfl)
  refine go_iload_n (q := 1) X0 hx (hb hby d14_0) (v := (4 : Int32)) rfl rfl ?_
  refine go_newP (q := 3) (ty := .byte) (cap := 4) (vs := [(.int (0 : Int32)), (.int (0 : Int32)), (.int (0 : Int32)), (.int (0 : Int32))]) (dv := (.int (0 : Int32))) X0 hx hZ rfl (w16 hw) e0 (hb hby d14_1) (by decide) (by decide) (by decide) (by decide) (by decide) rfl rfl rfl ?_
  intro T1 h1 ob1 k1 g1 X1 e1 E1 A1
  have fr1 : n0 ≤ ob1 := own_ge O0 g1
  have sn1 : h0.size ≤ ob1 := g1 ▸ (Nat.le_refl _)
  have ne_a1_ob1 : a1 ≠ ob1 := own_lt g1 A_0.lt
  refine go_astore_n (q := 4) X1 hx (hb hby d14_3) rfl (l' := #[.val (.ref a1), .val (.int (0 : Int32)), .val (.int (4 : Int32)), .val (.ref ob1), .unset, .unset]) rfl rfl ?_
  refine go_aload_n (q := 5) X1 hx (hb hby d14_4) (v := (.ref a1)) rfl rfl rfl ?_
  refine go_iload_n (q := 6) X1 hx (hb hby d14_5) (v := (0 : Int32)) rfl rfl ?_
  refine go_aload_n (q := 7) X1 hx (hb hby d14_6) (v := (.ref ob1)) rfl rfl rfl ?_
  refine go_iconst (q := 8) X1 hx (hb hby d14_7) (v := (0 : Int32)) (by decide) rfl ?_
  refine go_iload_n (q := 9) X1 hx (hb hby d14_8) (v := (4 : Int32)) rfl rfl ?_
  have f2 : Arv Z h1 a1 kc .char (4 : Int32) [(.int x0), (.int x1), (.int x2), (.int x3)] dc := (A_0.ext E1)
  have O3 : Old Z n0 h1 := (O0.ext E1)
  refine go_static (q := 12) X1 hx hZ hown (y := (⟨"java/lang/StringUTF16", "compress", "([CI[BII)I"⟩ : MethodName)) (w71 hw) (w72 hw) (w69 hw) (w73 hw) (by decide) e1 (b15_3 l Z a0 hw a1 kc dc ob1 k1 x0 x1 x2 x3 h1 n0 O3 f2 A1 ne_a1_ob1 fr1 r_1 r_2 r_3 r_4) (argsL := [(.ref a1), (.int (0 : Int32)), (.ref ob1), (.int (0 : Int32)), (.int (4 : Int32))]) (rest := []) rfl (lenOf pd_0 rfl) rfl (by rw [hml]; rfl) (W := 0) (Nat.le_of_eq rfl) (hb hby d14_9) (by decide) (by decide) (by decide) (by decide) rfl ?_
  rintro T4 h4 _ L4 X4 e4 ⟨rfl, M4, K4, p4_0⟩
  have N4 := Fr.app N0 M4
  refine go_istore (q := 14) X4 hx (hb hby d14_12) (l' := #[.val (.ref a1), .val (.int (0 : Int32)), .val (.int (4 : Int32)), .val (.ref ob1), .val (.int (4 : Int32)), .unset]) rfl rfl ?_
  refine go_iload (q := 16) X4 hx (hb hby d14_14) (v := (4 : Int32)) rfl rfl ?_
  refine go_iload_n (q := 17) X4 hx (hb hby d14_16) (v := (4 : Int32)) rfl rfl ?_
  refine go_icmpY (q := 57) X4 hx (hb hby d14_17) (XT.ii_eq_t (by decide)) (by decide) (by decide) ?_
  refine go_aload_n (q := 58) X4 hx (hb hby d14_57) (v := (.ref ob1)) rfl rfl rfl ?_
  refine go_retA X4 hx hret hlk e4 (hb hby d14_58) rfl rfl rfl (by decide) (by decide) ?_
  exact ⟨ob1, k1, rfl, N4, (((Keep.refl h0 []).ext E1).trans K4 (allS (P := fun x => x ∈ [] ∨ h0.size ≤ x) (Or.inr sn1) all0)), sn1, p4_0⟩
set_option maxRecDepth 65536 in
set_option maxHeartbeats 40000000 in
theorem b16_3 (l : Launch) (Z : State) (a0 : Array Value) (hw : ∀ d ∈ tables_1, d.before a0 Z = true) (a1 : Addr) (kb : ClassId) (vs : List Value) (h0 : Heap) (n0 : Nat) (O0 : Old Z n0 h0) (A_0 : Arv Z h0 a1 kb .byte (4 : Int32) vs (.int (0 : Int32))) :
    Con l Z (⟨"java/lang/StringUTF16", "coderFromArrayLen", "([BI)B"⟩ : MethodName) jdk_52_method_15_code 2 (some .byte) ({ frames := 0, cells := 0, slots := 0, locals := 0 } : Room) #[(.ref a1), (.int (4 : Int32))] h0 (fun v h L => v = some (.int (0 : Int32)) ∧ Fr n0 L ∧ Keep h0 h []) := by
  refine Con.of (plainFor_of_name pn_0) ?_
  intro p e s m below meth c s₁ hx hby hml hZ hown hnm hret hlk X0 e0
  have N0 := Fr.nil n0
  refine go_cast (g' := mkF m 0 #[.val (.ref a1), .val (.int (4 : Int32))] []) ?_ (by first | (simp [entryFrame, mkF, argsToLocals, Value.category]; done) | rfl)
  refine go_iload_n (q := 1) X0 hx (hb hby d16_0) (v := (4 : Int32)) rfl rfl ?_
  refine go_aload_n (q := 2) X0 hx (hb hby d16_1) (v := (.ref a1)) rfl rfl rfl ?_
  refine go_alen (q := 3) X0 hx hZ e0 A_0 (hb hby d16_2) rfl ?_
  refine go_isub (q := 4) X0 hx (hb hby d16_3) (v := (0 : Int32)) (by decide) rfl ?_
  refine go_bipush (q := 6) X0 hx (hb hby d16_4) (v := (31 : Int32)) (by decide) rfl ?_
  refine go_iushr (q := 7) X0 hx (hb hby d16_6) (v := (0 : Int32)) (by decide) rfl ?_
  refine go_i2b (q := 8) X0 hx (hb hby d16_7) (v := (0 : Int32)) (by decide) rfl ?_
  refine go_retI X0 hx hret hlk e0 (hb hby d16_8) (by simp) (by decide) (by decide) (by decide) ?_
  exact ⟨rfl, N0, (Keep.refl h0 [])⟩
set_option maxRecDepth 65536 in
set_option maxHeartbeats 40000000 in
theorem b2_3 (l : Launch) (Z : State) (a0 : Array Value) (hw : ∀ d ∈ tables_1, d.before a0 Z = true) (a1 : Addr) (a2 : Addr) (u1 : Value) (u2 : Value) (kc : ClassId) (dc : Value) (zc : Int32) (x0 : Int32) (x1 : Int32) (x2 : Int32) (x3 : Int32) (h0 : Heap) (n0 : Nat) (O0 : Old Z n0 h0) (E_0 : Exa Z h0 a1 "java/lang/String") (F_1 : Fld Z h0 a1 "java/lang/String" "value" "[B" u1) (F_2 : Fld Z h0 a1 "java/lang/String" "coder" "B" u2) (g_3 : n0 ≤ a1) (A_4 : Arv Z h0 a2 kc .char (4 : Int32) [(.int x0), (.int x1), (.int x2), (.int x3)] dc) (S_5 : Sta Z Z.heap "java/lang/String" "COMPACT_STRINGS" "Z" (.int zc)) (r_6 : (¬ zc = 0)) (r_7 : (¬ (255 : Int32) < x0)) (r_8 : (¬ (255 : Int32) < x1)) (r_9 : (¬ (255 : Int32) < x2)) (r_10 : (¬ (255 : Int32) < x3)) :
    Con l Z (⟨"java/lang/String", "<init>", "([CIILjava/lang/Void;)V"⟩ : MethodName) jdk_42_method_149_code 6 none ({ frames := 2, cells := 1, slots := 4, locals := 35 } : Room) #[(.ref a1), (.ref a2), (.int (0 : Int32)), (.int (4 : Int32)), .null] h0 (fun v h L => ∃ (r : Addr) (kb : ClassId), v = none ∧ Fr n0 L ∧ Keep h0 h [a1] ∧ h0.size ≤ r ∧ Exa Z h a1 "java/lang/String" ∧ Fld Z h a1 "java/lang/String" "coder" "B" (.int (0 : Int32)) ∧ Fld Z h a1 "java/lang/String" "value" "[B" (.ref r) ∧ Arv Z h r kb .byte (4 : Int32) [(.int x0.toInt8.toInt32), (.int x1.toInt8.toInt32), (.int x2.toInt8.toInt32), (.int x3.toInt8.toInt32)] (.int (0 : Int32))) := by
  refine Con.of (plainFor_of_name pn_1) ?_
  intro p e s m below meth c s₁ hx hby hml hZ hown hnm hret hlk X0 e0
  have N0 := Fr.nil n0
  refine go_cast (g' := mkF m 0 #[.val (.ref a1), .val (.ref a2), .val (.int (0 : Int32)), .val (.int (4 : Int32)), .val .null, .unset] []) ?_ (by first | (simp [entryFrame, mkF, argsToLocals, Value.category]; done) | rfl)
  refine go_aload_n (q := 1) X0 hx (hb hby d2_0) (v := (.ref a1)) rfl rfl rfl ?_
  refine go_initO (q := 4) (W := 0) X0 hx hZ hown (w12 hw) (w13 hw) (w14 hw) e0 (by rw [hml]; rfl) (hb hby d2_1) (by decide) (Nat.le_of_eq rfl) (by decide) rfl ?_
  intro T1 X1 e1
  refine go_iload_n (q := 5) X1 hx (hb hby d2_4) (v := (4 : Int32)) rfl rfl ?_
  refine go_ifY (q := 27) X1 hx (hb hby d2_5) (XT.i0_ne_t (by decide)) (by decide) (by decide) ?_
  refine go_getS (q := 30) (host := "") X1 hx hZ hown (Or.inl (w42 hw)) Via.refl e1 (Sta.ext O0.2 S_5) (hb hby d2_27) rfl ?_
  intro T2 X2 e2
  refine go_ifN (q := 33) X2 hx (hb hby d2_30) (XT.i0_eq_f r_6) rfl ?_
  refine go_aload_n (q := 34) X2 hx (hb hby d2_33) (v := (.ref a2)) rfl rfl rfl ?_
  refine go_iload_n (q := 35) X2 hx (hb hby d2_34) (v := (0 : Int32)) rfl rfl ?_
  refine go_iload_n (q := 36) X2 hx (hb hby d2_35) (v := (4 : Int32)) rfl rfl ?_
  refine go_static (q := 39) X2 hx hZ hown (y := (⟨"java/lang/StringUTF16", "compress", "([CII)[B"⟩ : MethodName)) (w67 hw) (w68 hw) (w69 hw) (w70 hw) (by decide) e2 (b14_3 l Z a0 hw a2 kc dc x0 x1 x2 x3 h0 n0 O0 A_4 r_7 r_8 r_9 r_10) (argsL := [(.ref a2), (.int (0 : Int32)), (.int (4 : Int32))]) (rest := []) rfl (lenOf pd_1 rfl) rfl (by rw [hml]; rfl) (W := 0) (Nat.le_of_eq rfl) (hb hby d2_36) (by decide) (by decide) (by decide) (by decide) rfl ?_
  rintro T3 h3 _ L3 X3 e3 ⟨r_3, kb_3, rfl, M3, K3, p3_0, p3_1⟩
  have N3 := Fr.app N0 M3
  have fr_r_3 : n0 ≤ r_3 := Nat.le_trans (own_le O0) p3_0
  have sn_r_3 : h0.size ≤ r_3 := Nat.le_trans (Nat.le_refl _) p3_0
  have ne_a1_r_3 : a1 ≠ r_3 := own_ltg p3_0 F_2.lt
  have ne_a2_r_3 : a2 ≠ r_3 := own_ltg p3_0 A_4.lt
  refine go_astore (q := 41) X3 hx (hb hby d2_39) rfl (l' := #[.val (.ref a1), .val (.ref a2), .val (.int (0 : Int32)), .val (.int (4 : Int32)), .val .null, .val (.ref r_3)]) rfl rfl ?_
  refine go_aload_n (q := 42) X3 hx (hb hby d2_41) (v := (.ref a1)) rfl rfl rfl ?_
  refine go_aload (q := 44) X3 hx (hb hby d2_42) (v := (.ref r_3)) rfl rfl rfl ?_
  refine go_iload_n (q := 45) X3 hx (hb hby d2_44) (v := (4 : Int32)) rfl rfl ?_
  have O4 : Old Z n0 h3 := (O0.keep K3 all0)
  refine go_static (q := 48) X3 hx hZ hown (y := (⟨"java/lang/StringUTF16", "coderFromArrayLen", "([BI)B"⟩ : MethodName)) (w74 hw) (w75 hw) (w69 hw) (w76 hw) (by decide) e3 (b16_3 l Z a0 hw r_3 kb_3 [(.int x0.toInt8.toInt32), (.int x1.toInt8.toInt32), (.int x2.toInt8.toInt32), (.int x3.toInt8.toInt32)] h3 n0 O4 p3_1) (argsL := [(.ref r_3), (.int (4 : Int32))]) (rest := [(.ref a1)]) rfl (lenOf pd_2 rfl) rfl (by rw [hml]; rfl) (W := 1) (Nat.le_of_eq rfl) (hb hby d2_45) (by decide) (by decide) (by decide) (by decide) rfl ?_
  rintro T5 h5 _ L5 X5 e5 ⟨rfl, M5, K5⟩
  have N5 := Fr.app N3 M5
  have f6 : Exa Z h5 a1 "java/lang/String" := ((E_0.keep K3).keep K5)
  have f7 : Fld Z h5 a1 "java/lang/String" "coder" "B" u2 := ((F_2.keep K3 nin0).keep K5 nin0)
  refine go_putF (q := 51) (host := "") X5 hx hZ hown (Or.inl (w22 hw)) Via.refl e5 f7 f6 (Or.inr ⟨(w18 hw), rfl, hnm⟩) (w3 hw) (ty := .byte) (by decide) (by decide) (by decide) (hb hby d2_48) rfl ?_
  intro T8 h8 X8 e8 W8
  have N8 := Fr.snoc X8 N5 g_3
  have F8 : Fld Z h8 a1 "java/lang/String" "coder" "B" (.int (0 : Int32)) := f7.same W8
  refine go_aload_n (q := 52) X8 hx (hb hby d2_51) (v := (.ref a1)) rfl rfl rfl ?_
  refine go_aload (q := 54) X8 hx (hb hby d2_52) (v := (.ref r_3)) rfl rfl rfl ?_
  have f9 : Exa Z h8 a1 "java/lang/String" := (f6.wr W8)
  have f10 : Fld Z h8 a1 "java/lang/String" "value" "[B" u1 := (((F_1.keep K3 nin0).keep K5 nin0).other W8 (Or.inr (slot_ne (Or.inr (w17 hw)) (Or.inr (w18 hw)) (by decide) (t := (.array .byte)) (t' := .byte) (by decide) (by decide))))
  refine go_putF (q := 57) (host := "") X8 hx hZ hown (Or.inl (w21 hw)) Via.refl e8 f10 f9 (Or.inr ⟨(w17 hw), rfl, hnm⟩) (w3 hw) (ty := (.array .byte)) (by decide) rfl rfl (hb hby d2_54) rfl ?_
  intro T11 h11 X11 e11 W11
  have N11 := Fr.snoc X11 N8 g_3
  have F11 : Fld Z h11 a1 "java/lang/String" "value" "[B" (.ref r_3) := f10.same W11
  have f12 : Exa Z h11 a1 "java/lang/String" := (f9.wr W11)
  have f13 : Fld Z h11 a1 "java/lang/String" "coder" "B" (.int (0 : Int32)) := (F8.other W11 (Or.inr (slot_ne (Or.inr (w18 hw)) (Or.inr (w17 hw)) (by decide) (t := .byte) (t' := (.array .byte)) (by decide) (by decide))))
  have f14 : Arv Z h11 r_3 kb_3 .byte (4 : Int32) [(.int x0.toInt8.toInt32), (.int x1.toInt8.toInt32), (.int x2.toInt8.toInt32), (.int x3.toInt8.toInt32)] (.int (0 : Int32)) := (((p3_1.keep K5 nin0).other W8 (Ne.symm ne_a1_r_3)).other W11 (Ne.symm ne_a1_r_3))
  refine go_ret0 X11 hx hret hlk e11 (hb hby d2_57) (by decide) (by decide) ?_
  exact ⟨r_3, kb_3, rfl, N11, (((((Keep.refl h0 [a1]).trans K3 all0).trans K5 all0).wr W8 (Or.inl (List.mem_of_getElem? (i := 0) rfl))).wr W11 (Or.inl (List.mem_of_getElem? (i := 0) rfl))), sn_r_3, f12, f13, F11, f14⟩
set_option maxRecDepth 65536 in
set_option maxHeartbeats 40000000 in
theorem b1_3 (l : Launch) (Z : State) (a0 : Array Value) (hw : ∀ d ∈ tables_1, d.before a0 Z = true) (a1 : Addr) (a2 : Addr) (u1 : Value) (u2 : Value) (kc : ClassId) (dc : Value) (zc : Int32) (x0 : Int32) (x1 : Int32) (x2 : Int32) (x3 : Int32) (h0 : Heap) (n0 : Nat) (O0 : Old Z n0 h0) (E_0 : Exa Z h0 a1 "java/lang/String") (F_1 : Fld Z h0 a1 "java/lang/String" "value" "[B" u1) (F_2 : Fld Z h0 a1 "java/lang/String" "coder" "B" u2) (g_3 : n0 ≤ a1) (A_4 : Arv Z h0 a2 kc .char (4 : Int32) [(.int x0), (.int x1), (.int x2), (.int x3)] dc) (S_5 : Sta Z Z.heap "java/lang/String" "COMPACT_STRINGS" "Z" (.int zc)) (r_6 : (¬ zc = 0)) (r_7 : (¬ (255 : Int32) < x0)) (r_8 : (¬ (255 : Int32) < x1)) (r_9 : (¬ (255 : Int32) < x2)) (r_10 : (¬ (255 : Int32) < x3)) :
    Con l Z (⟨"java/lang/String", "<init>", "([C)V"⟩ : MethodName) jdk_42_method_3_code 2 none ({ frames := 3, cells := 1, slots := 4, locals := 52 } : Room) #[(.ref a1), (.ref a2)] h0 (fun v h L => ∃ (r : Addr) (kb : ClassId), v = none ∧ Fr n0 L ∧ Keep h0 h [a1] ∧ h0.size ≤ r ∧ Exa Z h a1 "java/lang/String" ∧ Fld Z h a1 "java/lang/String" "coder" "B" (.int (0 : Int32)) ∧ Fld Z h a1 "java/lang/String" "value" "[B" (.ref r) ∧ Arv Z h r kb .byte (4 : Int32) [(.int x0.toInt8.toInt32), (.int x1.toInt8.toInt32), (.int x2.toInt8.toInt32), (.int x3.toInt8.toInt32)] (.int (0 : Int32))) := by
  refine Con.of (plainFor_of_name pn_1) ?_
  intro p e s m below meth c s₁ hx hby hml hZ hown hnm hret hlk X0 e0
  have N0 := Fr.nil n0
  refine go_cast (g' := mkF m 0 #[.val (.ref a1), .val (.ref a2)] []) ?_ (by first | (simp [entryFrame, mkF, argsToLocals, Value.category]; done) | rfl)
  refine go_aload_n (q := 1) X0 hx (hb hby d1_0) (v := (.ref a1)) rfl rfl rfl ?_
  refine go_aload_n (q := 2) X0 hx (hb hby d1_1) (v := (.ref a2)) rfl rfl rfl ?_
  refine go_iconst (q := 3) X0 hx (hb hby d1_2) (v := (0 : Int32)) (by decide) rfl ?_
  refine go_aload_n (q := 4) X0 hx (hb hby d1_3) (v := (.ref a2)) rfl rfl rfl ?_
  refine go_alen (q := 5) X0 hx hZ e0 A_4 (hb hby d1_4) rfl ?_
  refine go_aconst_null (q := 6) X0 hx (hb hby d1_5)  rfl ?_
  refine go_special (q := 9) X0 hx hZ hown (y := (⟨"java/lang/String", "<init>", "([CIILjava/lang/Void;)V"⟩ : MethodName)) (a := a1) rfl (w8 hw) (w9 hw) (w4 hw) (w11 hw) (by decide) e0 (b2_3 l Z a0 hw a1 a2 u1 u2 kc dc zc x0 x1 x2 x3 h0 n0 O0 E_0 F_1 F_2 g_3 A_4 S_5 r_6 r_7 r_8 r_9 r_10) (argsL := [(.ref a2), (.int (0 : Int32)), (.int (4 : Int32)), .null]) (rest := []) rfl (lenOf pd_3 rfl) rfl (by rw [hml]; rfl) (W := 0) (Nat.le_of_eq rfl) (hb hby d1_6) (by decide) (by decide) (by decide) (by decide) rfl ?_
  rintro T1 h1 _ L1 X1 e1 ⟨r_1, kb_1, rfl, M1, K1, p1_0, p1_1, p1_2, p1_3, p1_4⟩
  have N1 := Fr.app N0 M1
  have fr_r_1 : n0 ≤ r_1 := Nat.le_trans (own_le O0) p1_0
  have sn_r_1 : h0.size ≤ r_1 := Nat.le_trans (Nat.le_refl _) p1_0
  have ne_a1_r_1 : a1 ≠ r_1 := own_ltg p1_0 F_2.lt
  have ne_a2_r_1 : a2 ≠ r_1 := own_ltg p1_0 A_4.lt
  refine go_ret0 X1 hx hret hlk e1 (hb hby d1_9) (by decide) (by decide) ?_
  exact ⟨r_1, kb_1, rfl, N1, ((Keep.refl h0 [a1]).trans K1 (allS (P := fun x => x ∈ [a1] ∨ h0.size ≤ x) (Or.inl (List.mem_of_getElem? (i := 0) rfl)) all0)), sn_r_1, p1_1, p1_2, p1_3, p1_4⟩
set_option maxRecDepth 65536 in
set_option maxHeartbeats 40000000 in
theorem b2_4 (l : Launch) (Z : State) (a0 : Array Value) (hw : ∀ d ∈ tables_1, d.before a0 Z = true) (a1 : Addr) (a2 : Addr) (u1 : Value) (u2 : Value) (kc : ClassId) (dc : Value) (h0 : Heap) (n0 : Nat) (O0 : Old Z n0 h0) (E_0 : Exa Z h0 a1 "java/lang/String") (F_1 : Fld Z h0 a1 "java/lang/String" "value" "[B" u1) (F_2 : Fld Z h0 a1 "java/lang/String" "coder" "B" u2) (g_3 : n0 ≤ a1) (A_4 : Arv Z h0 a2 kc .char (0 : Int32) [] dc) :
    ConS l Z own_EL [a1] (⟨"java/lang/String", "<init>", "([CIILjava/lang/Void;)V"⟩ : MethodName) jdk_42_method_149_code 6 none ({ frames := 1, cells := 4, slots := 8, locals := 12 } : Room) #[(.ref a1), (.ref a2), (.int (0 : Int32)), (.int (0 : Int32)), .null] h0 (fun v h L => ∃ (r : Addr) (kb : ClassId), v = none ∧ Fr n0 L ∧ Keep h0 h [a1] ∧ Exa Z h a1 "java/lang/String" ∧ Fld Z h a1 "java/lang/String" "coder" "B" (.int (0 : Int32)) ∧ Fld Z h a1 "java/lang/String" "value" "[B" (.ref r) ∧ Arv Z h r kb .byte (0 : Int32) [] (.int (0 : Int32))) := by
  refine ConS.of (plainFor_of_name pn_1) ?_
  intro p e s m below meth c s₁ hx hby hml hZ hown hnm hret hlk X0 e0 hS0 H0 hsf hh0
  have hEL := own_hEL hw
  have N0 := Fr.nil n0
  refine go_cast (g' := mkF m 0 #[.val (.ref a1), .val (.ref a2), .val (.int (0 : Int32)), .val (.int (0 : Int32)), .val .null, .unset] []) ?_ (by first | (simp [entryFrame, mkF, argsToLocals, Value.category]; done) | rfl)
  refine go_aload_n (q := 1) X0 hx (hb hby d2_0) (v := (.ref a1)) rfl rfl rfl ?_
  refine go_initO (q := 4) (W := 0) X0 hx hZ hown (w12 hw) (w13 hw) (w14 hw) e0 (by rw [hml]; rfl) (hb hby d2_1) (by decide) (Nat.le_of_eq rfl) (by decide) rfl ?_
  intro T1 X1 e1
  refine go_iload_n (q := 5) X1 hx (hb hby d2_4) (v := (0 : Int32)) rfl rfl ?_
  refine go_ifN (q := 8) X1 hx (hb hby d2_5) (XT.i0_ne_f (by decide)) rfl ?_
  refine go_aload_n (q := 9) X1 hx (hb hby d2_8) (v := (.ref a1)) rfl rfl rfl ?_
  refine go_ldcS (q := 11) (n := 0) (z := (0 : Int32)) (vs := []) X1 hx hZ hown (w15 hw) (own_wS hw) e1 hS0 (Nat.zero_le _) hEL (List.mem_of_getElem? (i := 0) rfl) H0 ⟨by decide, by decide⟩ (by decide) (by decide) (hb hby d2_9) (by decide) (by decide) (by decide) (by decide) rfl ?_
  intro T2 h2 v2 k2 la2 lb2 kb2 X2 e2 E2 hS2 hk2 hZ2 ho2 xl2 cl2 ul2 A2 C2 H2 Nl2
  have s4 : Safe Z own_EL v2 h2 a1 := (C2.safe E_0.lt (hsf _ (List.mem_of_getElem? (i := 0) rfl)))
  have ne_a1_la2 : a1 ≠ la2 := (Nl2 _ s4).1
  have ne_a1_lb2 : a1 ≠ lb2 := (Nl2 _ s4).2
  refine go_getF (q := 14) (host := "") X2 hx hZ2 ho2 (Or.inl (w21 hw)) Via.refl e2 ul2 (hb hby d2_11) rfl ?_
  intro T5 X5 e5
  have f6 : Exa Z h2 a1 "java/lang/String" := (E_0.ext E2)
  have f7 : Fld Z h2 a1 "java/lang/String" "value" "[B" u1 := (F_1.ext E2)
  refine go_putF (q := 17) (host := "") X5 hx hZ2 ho2 (Or.inl (w21 hw)) Via.refl e5 f7 f6 (Or.inr ⟨(w17 hw), rfl, hnm⟩) (w3 hw) (ty := (.array .byte)) (by decide) rfl rfl (hb hby d2_14) rfl ?_
  intro T8 h8 X8 e8 W8
  have N8 := Fr.snoc X8 N0 g_3
  have F8 : Fld Z h8 a1 "java/lang/String" "value" "[B" (.ref lb2) := f7.same W8
  have H9 := H2.trans (CHr.wr W8 s4 H2.1)
  refine go_aload_n (q := 18) X8 hx (hb hby d2_17) (v := (.ref a1)) rfl rfl rfl ?_
  have O11 : Old Z n0 h8 := ((O0.ext E2).wr W8 g_3)
  refine go_ldcS (q := 20) (n := 0) (z := (0 : Int32)) (vs := []) X8 hx hZ2 ho2 (w15 hw) (own_wS hw) e8 hS2 (Nat.le_trans hk2 (Nat.le_of_eq W8.size.symm)) hEL (List.mem_of_getElem? (i := 0) rfl) H9 ⟨by decide, by decide⟩ (by decide) (by decide) (hb hby d2_18) (by decide) (by decide) (by decide) (by decide) rfl ?_
  intro T10 h10 v10 k10 la10 lb10 kb10 X10 e10 E10 hS10 hk10 hZ10 ho10 xl10 cl10 ul10 A10 C10 H10 Nl10
  have f13 : Exa Z h8 a1 "java/lang/String" := (f6.wr W8)
  have s14 : Safe Z own_EL v10 h10 a1 := (C10.safe f13.lt (Safe.wr W8 s4 H2.1 s4))
  have ne_a1_la10 : a1 ≠ la10 := (Nl10 _ s14).1
  have ne_a1_lb10 : a1 ≠ lb10 := (Nl10 _ s14).2
  refine go_getF (q := 23) (host := "") X10 hx hZ10 ho10 (Or.inl (w22 hw)) Via.refl e10 cl10 (hb hby d2_20) rfl ?_
  intro T15 X15 e15
  have f16 : Exa Z h10 a1 "java/lang/String" := ((f6.wr W8).ext E10)
  have f17 : Fld Z h10 a1 "java/lang/String" "coder" "B" u2 := (((F_2.ext E2).other W8 (Or.inr (slot_ne (Or.inr (w18 hw)) (Or.inr (w17 hw)) (by decide) (t := .byte) (t' := (.array .byte)) (by decide) (by decide)))).ext E10)
  refine go_putF (q := 26) (host := "") X15 hx hZ10 ho10 (Or.inl (w22 hw)) Via.refl e15 f17 f16 (Or.inr ⟨(w18 hw), rfl, hnm⟩) (w3 hw) (ty := .byte) (by decide) (by decide) (by decide) (hb hby d2_23) rfl ?_
  intro T18 h18 X18 e18 W18
  have N18 := Fr.snoc X18 N8 g_3
  have F18 : Fld Z h18 a1 "java/lang/String" "coder" "B" (.int (0 : Int32)) := f17.same W18
  have H19 := H10.trans (CHr.wr W18 s14 H10.1)
  have f20 : Exa Z h18 a1 "java/lang/String" := (f16.wr W18)
  have f21 : Fld Z h18 a1 "java/lang/String" "value" "[B" (.ref lb2) := ((F8.ext E10).other W18 (Or.inr (slot_ne (Or.inr (w17 hw)) (Or.inr (w18 hw)) (by decide) (t := (.array .byte)) (t' := .byte) (by decide) (by decide))))
  have f22 : Arv Z h18 lb2 kb2 .byte (0 : Int32) [] (.int (0 : Int32)) := (((A2.other W8 (Ne.symm ne_a1_lb2)).ext E10).other W18 (Ne.symm ne_a1_lb2))
  refine go_ret0S X18 hx hS10 (Nat.le_trans hk10 (Nat.le_of_eq W18.size.symm)) hZ10 hEL H19 hh0 hret hlk e18 (hb hby d2_26) (by decide) (by decide) ?_
  exact ⟨lb2, kb2, rfl, N18, (((((Keep.refl h0 [a1]).ext E2).wr W8 (Or.inl (List.mem_of_getElem? (i := 0) rfl))).ext E10).wr W18 (Or.inl (List.mem_of_getElem? (i := 0) rfl))), f20, F18, f21, f22⟩
set_option maxRecDepth 65536 in
set_option maxHeartbeats 40000000 in
theorem b1_4 (l : Launch) (Z : State) (a0 : Array Value) (hw : ∀ d ∈ tables_1, d.before a0 Z = true) (a1 : Addr) (a2 : Addr) (u1 : Value) (u2 : Value) (kc : ClassId) (dc : Value) (h0 : Heap) (n0 : Nat) (O0 : Old Z n0 h0) (E_0 : Exa Z h0 a1 "java/lang/String") (F_1 : Fld Z h0 a1 "java/lang/String" "value" "[B" u1) (F_2 : Fld Z h0 a1 "java/lang/String" "coder" "B" u2) (g_3 : n0 ≤ a1) (A_4 : Arv Z h0 a2 kc .char (0 : Int32) [] dc) :
    ConS l Z own_EL [a1] (⟨"java/lang/String", "<init>", "([C)V"⟩ : MethodName) jdk_42_method_3_code 2 none ({ frames := 2, cells := 4, slots := 8, locals := 29 } : Room) #[(.ref a1), (.ref a2)] h0 (fun v h L => ∃ (r : Addr) (kb : ClassId), v = none ∧ Fr n0 L ∧ Keep h0 h [a1] ∧ Exa Z h a1 "java/lang/String" ∧ Fld Z h a1 "java/lang/String" "coder" "B" (.int (0 : Int32)) ∧ Fld Z h a1 "java/lang/String" "value" "[B" (.ref r) ∧ Arv Z h r kb .byte (0 : Int32) [] (.int (0 : Int32))) := by
  refine ConS.of (plainFor_of_name pn_1) ?_
  intro p e s m below meth c s₁ hx hby hml hZ hown hnm hret hlk X0 e0 hS0 H0 hsf hh0
  have hEL := own_hEL hw
  have N0 := Fr.nil n0
  refine go_cast (g' := mkF m 0 #[.val (.ref a1), .val (.ref a2)] []) ?_ (by first | (simp [entryFrame, mkF, argsToLocals, Value.category]; done) | rfl)
  refine go_aload_n (q := 1) X0 hx (hb hby d1_0) (v := (.ref a1)) rfl rfl rfl ?_
  refine go_aload_n (q := 2) X0 hx (hb hby d1_1) (v := (.ref a2)) rfl rfl rfl ?_
  refine go_iconst (q := 3) X0 hx (hb hby d1_2) (v := (0 : Int32)) (by decide) rfl ?_
  refine go_aload_n (q := 4) X0 hx (hb hby d1_3) (v := (.ref a2)) rfl rfl rfl ?_
  refine go_alen (q := 5) X0 hx hZ e0 A_4 (hb hby d1_4) rfl ?_
  refine go_aconst_null (q := 6) X0 hx (hb hby d1_5)  rfl ?_
  refine go_specialS (q := 9) (sf := [a1]) X0 hx hZ hown hS0 (Nat.zero_le _) hEL H0 (allS (P := fun x => Safe Z own_EL s.vm h0 x ∧ x < h0.size) ⟨(hsf _ (List.mem_of_getElem? (i := 0) rfl)), E_0.lt⟩ all0) (y := (⟨"java/lang/String", "<init>", "([CIILjava/lang/Void;)V"⟩ : MethodName)) (a := a1) rfl (w8 hw) (w9 hw) (w4 hw) (w11 hw) (by decide) e0 (b2_4 l Z a0 hw a1 a2 u1 u2 kc dc h0 n0 O0 E_0 F_1 F_2 g_3 A_4) (argsL := [(.ref a2), (.int (0 : Int32)), (.int (0 : Int32)), .null]) (rest := []) rfl (lenOf pd_3 rfl) rfl (by rw [hml]; rfl) (W := 0) (Nat.le_of_eq rfl) (hb hby d1_6) (by decide) (by decide) (by decide) (by decide) rfl ?_
  rintro T1 h1 v1 k1 _ L1 X1 e1 hS1 hk1 hZ1 ho1 C1 H1 ⟨r_1, kb_1, rfl, M1, K1, p1_0, p1_1, p1_2, p1_3⟩
  have N1 := Fr.app N0 M1
  refine go_ret0S X1 hx hS1 hk1 hZ1 hEL H1 hh0 hret hlk e1 (hb hby d1_9) (by decide) (by decide) ?_
  exact ⟨r_1, kb_1, rfl, N1, ((Keep.refl h0 [a1]).trans K1 (allS (P := fun x => x ∈ [a1] ∨ h0.size ≤ x) (Or.inl (List.mem_of_getElem? (i := 0) rfl)) all0)), p1_0, p1_1, p1_2, p1_3⟩
set_option maxRecDepth 65536 in
set_option maxHeartbeats 40000000 in
theorem b9 (l : Launch) (Z : State) (a0 : Array Value) (hw : ∀ d ∈ tables_1, d.before a0 Z = true) (a1 : Addr) (zc : Int32) (h0 : Heap) (n0 : Nat) (O0 : Old Z n0 h0) (F_0 : Fld Z h0 a1 "java/lang/String" "coder" "B" (.int (0 : Int32))) (S_1 : Sta Z Z.heap "java/lang/String" "COMPACT_STRINGS" "Z" (.int zc)) (r_2 : (¬ zc = 0)) :
    Con l Z (⟨"java/lang/String", "coder", "()B"⟩ : MethodName) jdk_42_method_152_code 1 (some .byte) ({ frames := 0, cells := 0, slots := 0, locals := 0 } : Room) #[(.ref a1)] h0 (fun v h L => v = some (.int (0 : Int32)) ∧ Fr n0 L ∧ Keep h0 h []) := by
  refine Con.of (plainFor_of_name pn_1) ?_
  intro p e s m below meth c s₁ hx hby hml hZ hown hnm hret hlk X0 e0
  have N0 := Fr.nil n0
  refine go_cast (g' := mkF m 0 #[.val (.ref a1)] []) ?_ (by first | (simp [entryFrame, mkF, argsToLocals, Value.category]; done) | rfl)
  refine go_getS (q := 3) (host := "") X0 hx hZ hown (Or.inl (w42 hw)) Via.refl e0 (Sta.ext O0.2 S_1) (hb hby d9_0) rfl ?_
  intro T1 X1 e1
  refine go_ifN (q := 6) X1 hx (hb hby d9_3) (XT.i0_eq_f r_2) rfl ?_
  refine go_aload_n (q := 7) X1 hx (hb hby d9_6) (v := (.ref a1)) rfl rfl rfl ?_
  refine go_getF (q := 10) (host := "") X1 hx hZ hown (Or.inl (w22 hw)) Via.refl e1 F_0 (hb hby d9_7) rfl ?_
  intro T2 X2 e2
  refine go_goto (q := 14) X2 hx (hb hby d9_10) (by decide) (by decide) ?_
  refine go_retI X2 hx hret hlk e2 (hb hby d9_14) (by simp) (by decide) (by decide) (by decide) ?_
  exact ⟨rfl, N0, (Keep.refl h0 [])⟩
set_option maxRecDepth 65536 in
set_option maxHeartbeats 40000000 in
theorem b7 (l : Launch) (Z : State) (a0 : Array Value) (hw : ∀ d ∈ tables_1, d.before a0 Z = true) (a1 : Addr) (zc : Int32) (h0 : Heap) (n0 : Nat) (O0 : Old Z n0 h0) (F_0 : Fld Z h0 a1 "java/lang/String" "coder" "B" (.int (0 : Int32))) (S_1 : Sta Z Z.heap "java/lang/String" "COMPACT_STRINGS" "Z" (.int zc)) (r_2 : (¬ zc = 0)) :
    Con l Z (⟨"java/lang/String", "isLatin1", "()Z"⟩ : MethodName) jdk_42_method_154_code 1 (some .boolean) ({ frames := 0, cells := 0, slots := 0, locals := 0 } : Room) #[(.ref a1)] h0 (fun v h L => v = some (.int (1 : Int32)) ∧ Fr n0 L ∧ Keep h0 h []) := by
  refine Con.of (plainFor_of_name pn_1) ?_
  intro p e s m below meth c s₁ hx hby hml hZ hown hnm hret hlk X0 e0
  have N0 := Fr.nil n0
  refine go_cast (g' := mkF m 0 #[.val (.ref a1)] []) ?_ (by first | (simp [entryFrame, mkF, argsToLocals, Value.category]; done) | rfl)
  refine go_getS (q := 3) (host := "") X0 hx hZ hown (Or.inl (w42 hw)) Via.refl e0 (Sta.ext O0.2 S_1) (hb hby d7_0) rfl ?_
  intro T1 X1 e1
  refine go_ifN (q := 6) X1 hx (hb hby d7_3) (XT.i0_eq_f r_2) rfl ?_
  refine go_aload_n (q := 7) X1 hx (hb hby d7_6) (v := (.ref a1)) rfl rfl rfl ?_
  refine go_getF (q := 10) (host := "") X1 hx hZ hown (Or.inl (w22 hw)) Via.refl e1 F_0 (hb hby d7_7) rfl ?_
  intro T2 X2 e2
  refine go_ifN (q := 13) X2 hx (hb hby d7_10) (XT.i0_ne_f (by decide)) rfl ?_
  refine go_iconst (q := 14) X2 hx (hb hby d7_13) (v := (1 : Int32)) (by decide) rfl ?_
  refine go_goto (q := 18) X2 hx (hb hby d7_14) (by decide) (by decide) ?_
  refine go_retI X2 hx hret hlk e2 (hb hby d7_18) (by simp) (by decide) (by decide) (by decide) ?_
  exact ⟨rfl, N0, (Keep.refl h0 [])⟩
set_option maxRecDepth 65536 in
set_option maxHeartbeats 40000000 in
theorem b8 (l : Launch) (Z : State) (a0 : Array Value) (hw : ∀ d ∈ tables_1, d.before a0 Z = true) (a1 : Addr) (a2 : Addr) (kb : ClassId) (nn : Int32) (vs : List Value) (dv : Value) (zc : Int32) (h0 : Heap) (n0 : Nat) (O0 : Old Z n0 h0) (E_0 : Exa Z h0 a1 "java/lang/String") (F_1 : Fld Z h0 a1 "java/lang/String" "value" "[B" (.ref a2)) (F_2 : Fld Z h0 a1 "java/lang/String" "coder" "B" (.int (0 : Int32))) (A_3 : Arv Z h0 a2 kb .byte nn vs dv) (S_4 : Sta Z Z.heap "java/lang/String" "COMPACT_STRINGS" "Z" (.int zc)) (r_5 : (¬ zc = 0)) :
    Con l Z (⟨"java/lang/String", "length", "()I"⟩ : MethodName) jdk_42_method_54_code 1 (some .int) ({ frames := 1, cells := 0, slots := 0, locals := 13 } : Room) #[(.ref a1)] h0 (fun v h L => v = some (.int nn) ∧ Fr n0 L ∧ Keep h0 h []) := by
  refine Con.of (plainFor_of_name pn_1) ?_
  intro p e s m below meth c s₁ hx hby hml hZ hown hnm hret hlk X0 e0
  have N0 := Fr.nil n0
  refine go_cast (g' := mkF m 0 #[.val (.ref a1)] []) ?_ (by first | (simp [entryFrame, mkF, argsToLocals, Value.category]; done) | rfl)
  refine go_aload_n (q := 1) X0 hx (hb hby d8_0) (v := (.ref a1)) rfl rfl rfl ?_
  refine go_getF (q := 4) (host := "") X0 hx hZ hown (Or.inl (w21 hw)) Via.refl e0 F_1 (hb hby d8_1) rfl ?_
  intro T1 X1 e1
  refine go_alen (q := 5) X1 hx hZ e1 A_3 (hb hby d8_4) rfl ?_
  refine go_aload_n (q := 6) X1 hx (hb hby d8_5) (v := (.ref a1)) rfl rfl rfl ?_
  refine go_virtual (q := 9) X1 hx hZ hown (y := (⟨"java/lang/String", "coder", "()B"⟩ : MethodName)) (z := (⟨"java/lang/String", "coder", "()B"⟩ : MethodName)) (a := a1) (w48 hw) (w49 hw) (notFace_of_selects (args := #[]) (mvT hZ (w51 hw))) (w51 hw) (w50 hw) (w4 hw) (w52 hw) (by decide) e1 E_0 (b9 l Z a0 hw a1 zc h0 n0 O0 F_2 S_4 r_5) (argsL := []) (rest := [(.int nn)]) rfl (lenOf pd_4 rfl) rfl (by rw [hml]; rfl) (W := 1) (Nat.le_of_eq rfl) (hb hby d8_6) (by decide) (by decide) (by decide) (by decide) rfl ?_
  rintro T2 h2 _ L2 X2 e2 ⟨rfl, M2, K2⟩
  have N2 := Fr.app N0 M2
  refine go_ishr (q := 10) X2 hx (hb hby d8_9) (v := nn) (own_shr0 _) rfl ?_
  refine go_retI X2 hx hret hlk e2 (hb hby d8_10) (by simp) rfl (by decide) (by decide) ?_
  exact ⟨rfl, N2, ((Keep.refl h0 []).trans K2 all0)⟩
set_option maxRecDepth 65536 in
set_option maxHeartbeats 40000000 in
theorem b11 (l : Launch) (Z : State) (a0 : Array Value) (hw : ∀ d ∈ tables_1, d.before a0 Z = true)  (h0 : Heap) (n0 : Nat) (O0 : Old Z n0 h0)  :
    Con l Z (⟨"java/lang/StringLatin1", "canEncode", "(I)Z"⟩ : MethodName) jdk_43_method_4_code 1 (some .boolean) ({ frames := 0, cells := 0, slots := 0, locals := 0 } : Room) #[(.int (69 : Int32))] h0 (fun v h L => v = some (.int (1 : Int32)) ∧ Fr n0 L ∧ Keep h0 h []) := by
  refine Con.of (plainFor_of_name pn_2) ?_
  intro p e s m below meth c s₁ hx hby hml hZ hown hnm hret hlk X0 e0
  have N0 := Fr.nil n0
  refine go_cast (g' := mkF m 0 #[.val (.int (69 : Int32))] []) ?_ (by first | (simp [entryFrame, mkF, argsToLocals, Value.category]; done) | rfl)
  refine go_iload_n (q := 1) X0 hx (hb hby d11_0) (v := (69 : Int32)) rfl rfl ?_
  refine go_ifN (q := 4) X0 hx (hb hby d11_1) (XT.i0_lt_f (by decide)) rfl ?_
  refine go_iload_n (q := 5) X0 hx (hb hby d11_4) (v := (69 : Int32)) rfl rfl ?_
  refine go_sipush (q := 8) X0 hx (hb hby d11_5) (v := (255 : Int32)) (by decide) rfl ?_
  refine go_icmpN (q := 11) X0 hx (hb hby d11_8) (XT.ii_gt_f (by decide)) rfl ?_
  refine go_iconst (q := 12) X0 hx (hb hby d11_11) (v := (1 : Int32)) (by decide) rfl ?_
  refine go_goto (q := 16) X0 hx (hb hby d11_12) (by decide) (by decide) ?_
  refine go_retI X0 hx hret hlk e0 (hb hby d11_16) (by simp) (by decide) (by decide) (by decide) ?_
  exact ⟨rfl, N0, (Keep.refl h0 [])⟩
set_option maxRecDepth 65536 in
set_option maxHeartbeats 40000000 in
theorem b12 (l : Launch) (Z : State) (a0 : Array Value) (hw : ∀ d ∈ tables_1, d.before a0 Z = true)  (h0 : Heap) (n0 : Nat) (O0 : Old Z n0 h0)  :
    Con l Z (⟨"java/lang/Math", "max", "(II)I"⟩ : MethodName) jdk_29_method_65_code 2 (some .int) ({ frames := 0, cells := 0, slots := 0, locals := 0 } : Room) #[(.int (0 : Int32)), (.int (0 : Int32))] h0 (fun v h L => v = some (.int (0 : Int32)) ∧ Fr n0 L ∧ Keep h0 h []) := by
  refine Con.of (Jvm.Free.JP.mathPlain rfl (by decide +kernel)) ?_
  intro p e s m below meth c s₁ hx hby hml hZ hown hnm hret hlk X0 e0
  have N0 := Fr.nil n0
  refine go_cast (g' := mkF m 0 #[.val (.int (0 : Int32)), .val (.int (0 : Int32))] []) ?_ (by first | (simp [entryFrame, mkF, argsToLocals, Value.category]; done) | rfl)
  refine go_iload_n (q := 1) X0 hx (hb hby d12_0) (v := (0 : Int32)) rfl rfl ?_
  refine go_iload_n (q := 2) X0 hx (hb hby d12_1) (v := (0 : Int32)) rfl rfl ?_
  refine go_icmpN (q := 5) X0 hx (hb hby d12_2) (XT.ii_lt_f (by decide)) rfl ?_
  refine go_iload_n (q := 6) X0 hx (hb hby d12_5) (v := (0 : Int32)) rfl rfl ?_
  refine go_goto (q := 10) X0 hx (hb hby d12_6) (by decide) (by decide) ?_
  refine go_retI X0 hx hret hlk e0 (hb hby d12_10) (by simp) rfl (by decide) (by decide) ?_
  exact ⟨rfl, N0, (Keep.refl h0 [])⟩
set_option maxRecDepth 65536 in
set_option maxHeartbeats 40000000 in
theorem b13 (l : Launch) (Z : State) (a0 : Array Value) (hw : ∀ d ∈ tables_1, d.before a0 Z = true)  (h0 : Heap) (n0 : Nat) (O0 : Old Z n0 h0)  :
    Con l Z (⟨"java/lang/Math", "min", "(II)I"⟩ : MethodName) jdk_29_method_69_code 2 (some .int) ({ frames := 0, cells := 0, slots := 0, locals := 0 } : Room) #[(.int (0 : Int32)), (.int (0 : Int32))] h0 (fun v h L => v = some (.int (0 : Int32)) ∧ Fr n0 L ∧ Keep h0 h []) := by
  refine Con.of (Jvm.Free.JP.mathPlain rfl (by decide +kernel)) ?_
  intro p e s m below meth c s₁ hx hby hml hZ hown hnm hret hlk X0 e0
  have N0 := Fr.nil n0
  refine go_cast (g' := mkF m 0 #[.val (.int (0 : Int32)), .val (.int (0 : Int32))] []) ?_ (by first | (simp [entryFrame, mkF, argsToLocals, Value.category]; done) | rfl)
  refine go_iload_n (q := 1) X0 hx (hb hby d13_0) (v := (0 : Int32)) rfl rfl ?_
  refine go_iload_n (q := 2) X0 hx (hb hby d13_1) (v := (0 : Int32)) rfl rfl ?_
  refine go_icmpN (q := 5) X0 hx (hb hby d13_2) (XT.ii_gt_f (by decide)) rfl ?_
  refine go_iload_n (q := 6) X0 hx (hb hby d13_5) (v := (0 : Int32)) rfl rfl ?_
  refine go_goto (q := 10) X0 hx (hb hby d13_6) (by decide) (by decide) ?_
  refine go_retI X0 hx hret hlk e0 (hb hby d13_10) (by simp) rfl (by decide) (by decide) ?_
  exact ⟨rfl, N0, (Keep.refl h0 [])⟩
set_option maxRecDepth 65536 in
set_option maxHeartbeats 40000000 in
theorem b13_1 (l : Launch) (Z : State) (a0 : Array Value) (hw : ∀ d ∈ tables_1, d.before a0 Z = true)  (h0 : Heap) (n0 : Nat) (O0 : Old Z n0 h0)  :
    Con l Z (⟨"java/lang/Math", "min", "(II)I"⟩ : MethodName) jdk_29_method_69_code 2 (some .int) ({ frames := 0, cells := 0, slots := 0, locals := 0 } : Room) #[(.int (1 : Int32)), (.int (1 : Int32))] h0 (fun v h L => v = some (.int (1 : Int32)) ∧ Fr n0 L ∧ Keep h0 h []) := by
  refine Con.of (Jvm.Free.JP.mathPlain rfl (by decide +kernel)) ?_
  intro p e s m below meth c s₁ hx hby hml hZ hown hnm hret hlk X0 e0
  have N0 := Fr.nil n0
  refine go_cast (g' := mkF m 0 #[.val (.int (1 : Int32)), .val (.int (1 : Int32))] []) ?_ (by first | (simp [entryFrame, mkF, argsToLocals, Value.category]; done) | rfl)
  refine go_iload_n (q := 1) X0 hx (hb hby d13_0) (v := (1 : Int32)) rfl rfl ?_
  refine go_iload_n (q := 2) X0 hx (hb hby d13_1) (v := (1 : Int32)) rfl rfl ?_
  refine go_icmpN (q := 5) X0 hx (hb hby d13_2) (XT.ii_gt_f (by decide)) rfl ?_
  refine go_iload_n (q := 6) X0 hx (hb hby d13_5) (v := (1 : Int32)) rfl rfl ?_
  refine go_goto (q := 10) X0 hx (hb hby d13_6) (by decide) (by decide) ?_
  refine go_retI X0 hx hret hlk e0 (hb hby d13_10) (by simp) rfl (by decide) (by decide) ?_
  exact ⟨rfl, N0, (Keep.refl h0 [])⟩
set_option maxRecDepth 65536 in
set_option maxHeartbeats 40000000 in
theorem b13_2 (l : Launch) (Z : State) (a0 : Array Value) (hw : ∀ d ∈ tables_1, d.before a0 Z = true)  (h0 : Heap) (n0 : Nat) (O0 : Old Z n0 h0)  :
    Con l Z (⟨"java/lang/Math", "min", "(II)I"⟩ : MethodName) jdk_29_method_69_code 2 (some .int) ({ frames := 0, cells := 0, slots := 0, locals := 0 } : Room) #[(.int (2 : Int32)), (.int (2 : Int32))] h0 (fun v h L => v = some (.int (2 : Int32)) ∧ Fr n0 L ∧ Keep h0 h []) := by
  refine Con.of (Jvm.Free.JP.mathPlain rfl (by decide +kernel)) ?_
  intro p e s m below meth c s₁ hx hby hml hZ hown hnm hret hlk X0 e0
  have N0 := Fr.nil n0
  refine go_cast (g' := mkF m 0 #[.val (.int (2 : Int32)), .val (.int (2 : Int32))] []) ?_ (by first | (simp [entryFrame, mkF, argsToLocals, Value.category]; done) | rfl)
  refine go_iload_n (q := 1) X0 hx (hb hby d13_0) (v := (2 : Int32)) rfl rfl ?_
  refine go_iload_n (q := 2) X0 hx (hb hby d13_1) (v := (2 : Int32)) rfl rfl ?_
  refine go_icmpN (q := 5) X0 hx (hb hby d13_2) (XT.ii_gt_f (by decide)) rfl ?_
  refine go_iload_n (q := 6) X0 hx (hb hby d13_5) (v := (2 : Int32)) rfl rfl ?_
  refine go_goto (q := 10) X0 hx (hb hby d13_6) (by decide) (by decide) ?_
  refine go_retI X0 hx hret hlk e0 (hb hby d13_10) (by simp) rfl (by decide) (by decide) ?_
  exact ⟨rfl, N0, (Keep.refl h0 [])⟩
set_option maxRecDepth 65536 in
set_option maxHeartbeats 40000000 in
theorem b13_3 (l : Launch) (Z : State) (a0 : Array Value) (hw : ∀ d ∈ tables_1, d.before a0 Z = true)  (h0 : Heap) (n0 : Nat) (O0 : Old Z n0 h0)  :
    Con l Z (⟨"java/lang/Math", "min", "(II)I"⟩ : MethodName) jdk_29_method_69_code 2 (some .int) ({ frames := 0, cells := 0, slots := 0, locals := 0 } : Room) #[(.int (3 : Int32)), (.int (3 : Int32))] h0 (fun v h L => v = some (.int (3 : Int32)) ∧ Fr n0 L ∧ Keep h0 h []) := by
  refine Con.of (Jvm.Free.JP.mathPlain rfl (by decide +kernel)) ?_
  intro p e s m below meth c s₁ hx hby hml hZ hown hnm hret hlk X0 e0
  have N0 := Fr.nil n0
  refine go_cast (g' := mkF m 0 #[.val (.int (3 : Int32)), .val (.int (3 : Int32))] []) ?_ (by first | (simp [entryFrame, mkF, argsToLocals, Value.category]; done) | rfl)
  refine go_iload_n (q := 1) X0 hx (hb hby d13_0) (v := (3 : Int32)) rfl rfl ?_
  refine go_iload_n (q := 2) X0 hx (hb hby d13_1) (v := (3 : Int32)) rfl rfl ?_
  refine go_icmpN (q := 5) X0 hx (hb hby d13_2) (XT.ii_gt_f (by decide)) rfl ?_
  refine go_iload_n (q := 6) X0 hx (hb hby d13_5) (v := (3 : Int32)) rfl rfl ?_
  refine go_goto (q := 10) X0 hx (hb hby d13_6) (by decide) (by decide) ?_
  refine go_retI X0 hx hret hlk e0 (hb hby d13_10) (by simp) rfl (by decide) (by decide) ?_
  exact ⟨rfl, N0, (Keep.refl h0 [])⟩
set_option maxRecDepth 65536 in
set_option maxHeartbeats 40000000 in
theorem b13_4 (l : Launch) (Z : State) (a0 : Array Value) (hw : ∀ d ∈ tables_1, d.before a0 Z = true)  (h0 : Heap) (n0 : Nat) (O0 : Old Z n0 h0)  :
    Con l Z (⟨"java/lang/Math", "min", "(II)I"⟩ : MethodName) jdk_29_method_69_code 2 (some .int) ({ frames := 0, cells := 0, slots := 0, locals := 0 } : Room) #[(.int (4 : Int32)), (.int (4 : Int32))] h0 (fun v h L => v = some (.int (4 : Int32)) ∧ Fr n0 L ∧ Keep h0 h []) := by
  refine Con.of (Jvm.Free.JP.mathPlain rfl (by decide +kernel)) ?_
  intro p e s m below meth c s₁ hx hby hml hZ hown hnm hret hlk X0 e0
  have N0 := Fr.nil n0
  refine go_cast (g' := mkF m 0 #[.val (.int (4 : Int32)), .val (.int (4 : Int32))] []) ?_ (by first | (simp [entryFrame, mkF, argsToLocals, Value.category]; done) | rfl)
  refine go_iload_n (q := 1) X0 hx (hb hby d13_0) (v := (4 : Int32)) rfl rfl ?_
  refine go_iload_n (q := 2) X0 hx (hb hby d13_1) (v := (4 : Int32)) rfl rfl ?_
  refine go_icmpN (q := 5) X0 hx (hb hby d13_2) (XT.ii_gt_f (by decide)) rfl ?_
  refine go_iload_n (q := 6) X0 hx (hb hby d13_5) (v := (4 : Int32)) rfl rfl ?_
  refine go_goto (q := 10) X0 hx (hb hby d13_6) (by decide) (by decide) ?_
  refine go_retI X0 hx hret hlk e0 (hb hby d13_10) (by simp) rfl (by decide) (by decide) ?_
  exact ⟨rfl, N0, (Keep.refl h0 [])⟩
set_option maxRecDepth 65536 in
set_option maxHeartbeats 40000000 in
theorem b10 (l : Launch) (Z : State) (a0 : Array Value) (hw : ∀ d ∈ tables_1, d.before a0 Z = true) (a1 : Addr) (kb : ClassId) (h0 : Heap) (n0 : Nat) (O0 : Old Z n0 h0) (A_0 : Arv Z h0 a1 kb .byte (0 : Int32) [] (.int (0 : Int32))) :
    Con l Z (⟨"java/lang/StringLatin1", "indexOf", "([BIII)I"⟩ : MethodName) jdk_43_method_22_code 4 (some .int) ({ frames := 1, cells := 0, slots := 0, locals := 13 } : Room) #[(.ref a1), (.int (69 : Int32)), (.int (0 : Int32)), (.int (0 : Int32))] h0 (fun v h L => ∃ (r : Int32), v = some (.int r) ∧ Fr n0 L ∧ Keep h0 h [] ∧ (r < 0 ↔ ¬ (False))) := by
  refine Con.of (plainFor_of_name pn_2) ?_
  intro p e s m below meth c s₁ hx hby hml hZ hown hnm hret hlk X0 e0
  have N0 := Fr.nil n0
  refine go_cast (g' := mkF m 0 #[.val (.ref a1), .val (.int (69 : Int32)), .val (.int (0 : Int32)), .val (.int (0 : Int32))] []) ?_ (by first | (simp [entryFrame, mkF, argsToLocals, Value.category]; done) | rfl)
  refine go_iload_n (q := 1) X0 hx (hb hby d10_0) (v := (69 : Int32)) rfl rfl ?_
  refine go_static (q := 4) X0 hx hZ hown (y := (⟨"java/lang/StringLatin1", "canEncode", "(I)Z"⟩ : MethodName)) (w57 hw) (w58 hw) (w55 hw) (w59 hw) (by decide) e0 (b11 l Z a0 hw  h0 n0 O0 ) (argsL := [(.int (69 : Int32))]) (rest := []) rfl (lenOf pd_5 rfl) rfl (by rw [hml]; rfl) (W := 0) (Nat.le_of_eq rfl) (hb hby d10_1) (by decide) (by decide) (by decide) (by decide) rfl ?_
  rintro T1 h1 _ L1 X1 e1 ⟨rfl, M1, K1⟩
  have N1 := Fr.app N0 M1
  refine go_ifY (q := 9) X1 hx (hb hby d10_4) (XT.i0_ne_t (by decide)) (by decide) (by decide) ?_
  refine go_iload_n (q := 10) X1 hx (hb hby d10_9) (v := (0 : Int32)) rfl rfl ?_
  refine go_iconst (q := 11) X1 hx (hb hby d10_10) (v := (0 : Int32)) (by decide) rfl ?_
  have O2 : Old Z n0 h1 := (O0.keep K1 all0)
  refine go_static (q := 14) X1 hx hZ hown (y := (⟨"java/lang/Math", "max", "(II)I"⟩ : MethodName)) (w60 hw) (w61 hw) (w62 hw) (w63 hw) (by decide) e1 (b12 l Z a0 hw  h1 n0 O2 ) (argsL := [(.int (0 : Int32)), (.int (0 : Int32))]) (rest := []) rfl (lenOf pd_6 rfl) rfl (by rw [hml]; rfl) (W := 0) (Nat.le_of_eq rfl) (hb hby d10_11) (by decide) (by decide) (by decide) (by decide) rfl ?_
  rintro T3 h3 _ L3 X3 e3 ⟨rfl, M3, K3⟩
  have N3 := Fr.app N1 M3
  refine go_istore_n (q := 15) X3 hx (hb hby d10_14) (l' := #[.val (.ref a1), .val (.int (69 : Int32)), .val (.int (0 : Int32)), .val (.int (0 : Int32))]) rfl rfl ?_
  refine go_iload_n (q := 16) X3 hx (hb hby d10_15) (v := (0 : Int32)) rfl rfl ?_
  refine go_aload_n (q := 17) X3 hx (hb hby d10_16) (v := (.ref a1)) rfl rfl rfl ?_
  have f4 : Arv Z h3 a1 kb .byte (0 : Int32) [] (.int (0 : Int32)) := ((A_0.keep K1 nin0).keep K3 nin0)
  refine go_alen (q := 18) X3 hx hZ e3 f4 (hb hby d10_17) rfl ?_
  have O5 : Old Z n0 h3 := (O2.keep K3 all0)
  refine go_static (q := 21) X3 hx hZ hown (y := (⟨"java/lang/Math", "min", "(II)I"⟩ : MethodName)) (w64 hw) (w65 hw) (w62 hw) (w66 hw) (by decide) e3 (b13 l Z a0 hw  h3 n0 O5 ) (argsL := [(.int (0 : Int32)), (.int (0 : Int32))]) (rest := []) rfl (lenOf pd_6 rfl) rfl (by rw [hml]; rfl) (W := 0) (Nat.le_of_eq rfl) (hb hby d10_18) (by decide) (by decide) (by decide) (by decide) rfl ?_
  rintro T6 h6 _ L6 X6 e6 ⟨rfl, M6, K6⟩
  have N6 := Fr.app N3 M6
  refine go_istore_n (q := 22) X6 hx (hb hby d10_21) (l' := #[.val (.ref a1), .val (.int (69 : Int32)), .val (.int (0 : Int32)), .val (.int (0 : Int32))]) rfl rfl ?_
  refine go_iload_n (q := 23) X6 hx (hb hby d10_22) (v := (0 : Int32)) rfl rfl ?_
  refine go_iload_n (q := 24) X6 hx (hb hby d10_23) (v := (0 : Int32)) rfl rfl ?_
  refine go_icmpN (q := 27) X6 hx (hb hby d10_24) (XT.ii_lt_f (by decide)) rfl ?_
  refine go_iconst (q := 28) X6 hx (hb hby d10_27) (v := (-1 : Int32)) (by decide) rfl ?_
  refine go_retI X6 hx hret hlk e6 (hb hby d10_28) (by simp) rfl (by decide) (by decide) ?_
  exact ⟨(-1 : Int32), rfl, N6, ((((Keep.refl h0 []).trans K1 all0).trans K3 all0).trans K6 all0), (by decide)⟩
set_option maxRecDepth 65536 in
set_option maxHeartbeats 40000000 in
theorem b6 (l : Launch) (Z : State) (a0 : Array Value) (hw : ∀ d ∈ tables_1, d.before a0 Z = true) (a1 : Addr) (a2 : Addr) (kb : ClassId) (zc : Int32) (h0 : Heap) (n0 : Nat) (O0 : Old Z n0 h0) (E_0 : Exa Z h0 a1 "java/lang/String") (F_1 : Fld Z h0 a1 "java/lang/String" "value" "[B" (.ref a2)) (F_2 : Fld Z h0 a1 "java/lang/String" "coder" "B" (.int (0 : Int32))) (A_3 : Arv Z h0 a2 kb .byte (0 : Int32) [] (.int (0 : Int32))) (S_4 : Sta Z Z.heap "java/lang/String" "COMPACT_STRINGS" "Z" (.int zc)) (r_5 : (¬ zc = 0)) :
    Con l Z (⟨"java/lang/String", "indexOf", "(II)I"⟩ : MethodName) jdk_42_method_80_code 3 (some .int) ({ frames := 2, cells := 0, slots := 0, locals := 28 } : Room) #[(.ref a1), (.int (69 : Int32)), (.int (0 : Int32))] h0 (fun v h L => ∃ (r : Int32), v = some (.int r) ∧ Fr n0 L ∧ Keep h0 h [] ∧ (r < 0 ↔ ¬ (False))) := by
  refine Con.of (plainFor_of_name pn_1) ?_
  intro p e s m below meth c s₁ hx hby hml hZ hown hnm hret hlk X0 e0
  have N0 := Fr.nil n0
  refine go_cast (g' := mkF m 0 #[.val (.ref a1), .val (.int (69 : Int32)), .val (.int (0 : Int32))] []) ?_ (by first | (simp [entryFrame, mkF, argsToLocals, Value.category]; done) | rfl)
  refine go_aload_n (q := 1) X0 hx (hb hby d6_0) (v := (.ref a1)) rfl rfl rfl ?_
  refine go_virtual (q := 4) X0 hx hZ hown (y := (⟨"java/lang/String", "isLatin1", "()Z"⟩ : MethodName)) (z := (⟨"java/lang/String", "isLatin1", "()Z"⟩ : MethodName)) (a := a1) (w37 hw) (w38 hw) (notFace_of_selects (args := #[]) (mvT hZ (w40 hw))) (w40 hw) (w39 hw) (w4 hw) (w41 hw) (by decide) e0 E_0 (b7 l Z a0 hw a1 zc h0 n0 O0 F_2 S_4 r_5) (argsL := []) (rest := []) rfl (lenOf pd_7 rfl) rfl (by rw [hml]; rfl) (W := 0) (Nat.le_of_eq rfl) (hb hby d6_1) (by decide) (by decide) (by decide) (by decide) rfl ?_
  rintro T1 h1 _ L1 X1 e1 ⟨rfl, M1, K1⟩
  have N1 := Fr.app N0 M1
  refine go_ifN (q := 7) X1 hx (hb hby d6_4) (XT.i0_eq_f (by decide)) rfl ?_
  refine go_aload_n (q := 8) X1 hx (hb hby d6_7) (v := (.ref a1)) rfl rfl rfl ?_
  have f2 : Fld Z h1 a1 "java/lang/String" "value" "[B" (.ref a2) := (F_1.keep K1 nin0)
  refine go_getF (q := 11) (host := "") X1 hx hZ hown (Or.inl (w21 hw)) Via.refl e1 f2 (hb hby d6_8) rfl ?_
  intro T3 X3 e3
  refine go_iload_n (q := 12) X3 hx (hb hby d6_11) (v := (69 : Int32)) rfl rfl ?_
  refine go_iload_n (q := 13) X3 hx (hb hby d6_12) (v := (0 : Int32)) rfl rfl ?_
  refine go_aload_n (q := 14) X3 hx (hb hby d6_13) (v := (.ref a1)) rfl rfl rfl ?_
  have f4 : Exa Z h1 a1 "java/lang/String" := (E_0.keep K1)
  have f5 : Fld Z h1 a1 "java/lang/String" "coder" "B" (.int (0 : Int32)) := (F_2.keep K1 nin0)
  have f6 : Arv Z h1 a2 kb .byte (0 : Int32) [] (.int (0 : Int32)) := (A_3.keep K1 nin0)
  have O7 : Old Z n0 h1 := (O0.keep K1 all0)
  refine go_virtual (q := 17) X3 hx hZ hown (y := (⟨"java/lang/String", "length", "()I"⟩ : MethodName)) (z := (⟨"java/lang/String", "length", "()I"⟩ : MethodName)) (a := a1) (w43 hw) (w44 hw) (notFace_of_selects (args := #[]) (mvT hZ (w46 hw))) (w46 hw) (w45 hw) (w4 hw) (w47 hw) (by decide) e3 f4 (b8 l Z a0 hw a1 a2 kb (0 : Int32) [] (.int (0 : Int32)) zc h1 n0 O7 f4 f2 f5 f6 S_4 r_5) (argsL := []) (rest := [(.int (0 : Int32)), (.int (69 : Int32)), (.ref a2)]) rfl (lenOf pd_8 rfl) rfl (by rw [hml]; rfl) (W := 3) (Nat.le_of_eq rfl) (hb hby d6_14) (by decide) (by decide) (by decide) (by decide) rfl ?_
  rintro T8 h8 _ L8 X8 e8 ⟨rfl, M8, K8⟩
  have N8 := Fr.app N1 M8
  have f9 : Arv Z h8 a2 kb .byte (0 : Int32) [] (.int (0 : Int32)) := (f6.keep K8 nin0)
  have O10 : Old Z n0 h8 := (O7.keep K8 all0)
  refine go_static (q := 20) X8 hx hZ hown (y := (⟨"java/lang/StringLatin1", "indexOf", "([BIII)I"⟩ : MethodName)) (w53 hw) (w54 hw) (w55 hw) (w56 hw) (by decide) e8 (b10 l Z a0 hw a2 kb h8 n0 O10 f9) (argsL := [(.ref a2), (.int (69 : Int32)), (.int (0 : Int32)), (.int (0 : Int32))]) (rest := []) rfl (lenOf pd_9 rfl) rfl (by rw [hml]; rfl) (W := 0) (Nat.le_of_eq rfl) (hb hby d6_17) (by decide) (by decide) (by decide) (by decide) rfl ?_
  have f12 : Fld Z h8 a1 "java/lang/String" "coder" "B" (.int (0 : Int32)) := (f5.keep K8 nin0)
  rintro T11 h11 _ L11 X11 e11 ⟨r_11, rfl, M11, K11, p11_0⟩
  have N11 := Fr.app N8 M11
  refine go_goto (q := 36) X11 hx (hb hby d6_20) (by decide) (by decide) ?_
  refine go_retI X11 hx hret hlk e11 (hb hby d6_36) (by simp) rfl (by decide) (by decide) ?_
  exact ⟨r_11, rfl, N11, ((((Keep.refl h0 []).trans K1 all0).trans K8 all0).trans K11 all0), p11_0⟩
set_option maxRecDepth 65536 in
set_option maxHeartbeats 40000000 in
theorem b5 (l : Launch) (Z : State) (a0 : Array Value) (hw : ∀ d ∈ tables_1, d.before a0 Z = true) (a1 : Addr) (a2 : Addr) (kb : ClassId) (zc : Int32) (h0 : Heap) (n0 : Nat) (O0 : Old Z n0 h0) (E_0 : Exa Z h0 a1 "java/lang/String") (F_1 : Fld Z h0 a1 "java/lang/String" "value" "[B" (.ref a2)) (F_2 : Fld Z h0 a1 "java/lang/String" "coder" "B" (.int (0 : Int32))) (A_3 : Arv Z h0 a2 kb .byte (0 : Int32) [] (.int (0 : Int32))) (S_4 : Sta Z Z.heap "java/lang/String" "COMPACT_STRINGS" "Z" (.int zc)) (r_5 : (¬ zc = 0)) :
    Con l Z (⟨"java/lang/String", "indexOf", "(I)I"⟩ : MethodName) jdk_42_method_79_code 2 (some .int) ({ frames := 3, cells := 0, slots := 0, locals := 42 } : Room) #[(.ref a1), (.int (69 : Int32))] h0 (fun v h L => ∃ (r : Int32), v = some (.int r) ∧ Fr n0 L ∧ Keep h0 h [] ∧ (r < 0 ↔ ¬ (False))) := by
  refine Con.of (plainFor_of_name pn_1) ?_
  intro p e s m below meth c s₁ hx hby hml hZ hown hnm hret hlk X0 e0
  have N0 := Fr.nil n0
  refine go_cast (g' := mkF m 0 #[.val (.ref a1), .val (.int (69 : Int32))] []) ?_ (by first | (simp [entryFrame, mkF, argsToLocals, Value.category]; done) | rfl)
  refine go_aload_n (q := 1) X0 hx (hb hby d5_0) (v := (.ref a1)) rfl rfl rfl ?_
  refine go_iload_n (q := 2) X0 hx (hb hby d5_1) (v := (69 : Int32)) rfl rfl ?_
  refine go_iconst (q := 3) X0 hx (hb hby d5_2) (v := (0 : Int32)) (by decide) rfl ?_
  refine go_virtual (q := 6) X0 hx hZ hown (y := (⟨"java/lang/String", "indexOf", "(II)I"⟩ : MethodName)) (z := (⟨"java/lang/String", "indexOf", "(II)I"⟩ : MethodName)) (a := a1) (w32 hw) (w33 hw) (notFace_of_selects (args := #[]) (mvT hZ (w35 hw))) (w35 hw) (w34 hw) (w4 hw) (w36 hw) (by decide) e0 E_0 (b6 l Z a0 hw a1 a2 kb zc h0 n0 O0 E_0 F_1 F_2 A_3 S_4 r_5) (argsL := [(.int (69 : Int32)), (.int (0 : Int32))]) (rest := []) rfl (lenOf pd_6 rfl) rfl (by rw [hml]; rfl) (W := 0) (Nat.le_of_eq rfl) (hb hby d5_3) (by decide) (by decide) (by decide) (by decide) rfl ?_
  rintro T1 h1 _ L1 X1 e1 ⟨r_1, rfl, M1, K1, p1_0⟩
  have N1 := Fr.app N0 M1
  refine go_retI X1 hx hret hlk e1 (hb hby d5_6) (by simp) rfl (by decide) (by decide) ?_
  exact ⟨r_1, rfl, N1, ((Keep.refl h0 []).trans K1 all0), p1_0⟩
set_option maxRecDepth 65536 in
set_option maxHeartbeats 40000000 in
theorem b4 (l : Launch) (Z : State) (a0 : Array Value) (hw : ∀ d ∈ tables_1, d.before a0 Z = true) (a1 : Addr) (a2 : Addr) (kb : ClassId) (zc : Int32) (h0 : Heap) (n0 : Nat) (O0 : Old Z n0 h0) (E_0 : Exa Z h0 a1 "java/lang/String") (F_1 : Fld Z h0 a1 "java/lang/String" "value" "[B" (.ref a2)) (F_2 : Fld Z h0 a1 "java/lang/String" "coder" "B" (.int (0 : Int32))) (A_3 : Arv Z h0 a2 kb .byte (0 : Int32) [] (.int (0 : Int32))) (S_4 : Sta Z Z.heap "java/lang/String" "COMPACT_STRINGS" "Z" (.int zc)) (r_5 : (¬ zc = 0)) :
    Con l Z (⟨"com/example/harborspread/harborspread/Decimals", "isTooLong", "(Ljava/lang/String;)Z"⟩ : MethodName) prog_21_method_3_code 1 (some .boolean) ({ frames := 4, cells := 0, slots := 0, locals := 55 } : Room) #[(.ref a1)] h0 (fun v h L => ∃ (r : Int32), v = some (.int r) ∧ Fr n0 L ∧ Keep h0 h [] ∧ ((r = 1 ∧ (False)) ∨ (r = 0 ∧ ¬ (False)))) := by
  refine Con.of (plainFor_of_name pn_3) ?_
  intro p e s m below meth c s₁ hx hby hml hZ hown hnm hret hlk X0 e0
  have N0 := Fr.nil n0
  refine go_cast (g' := mkF m 0 #[.val (.ref a1)] []) ?_ (by first | (simp [entryFrame, mkF, argsToLocals, Value.category]; done) | rfl)
  refine go_aload_n (q := 1) X0 hx (hb hby d4_0) (v := (.ref a1)) rfl rfl rfl ?_
  refine go_bipush (q := 3) X0 hx (hb hby d4_1) (v := (69 : Int32)) (by decide) rfl ?_
  refine go_virtual (q := 6) X0 hx hZ hown (y := (⟨"java/lang/String", "indexOf", "(I)I"⟩ : MethodName)) (z := (⟨"java/lang/String", "indexOf", "(I)I"⟩ : MethodName)) (a := a1) (w27 hw) (w28 hw) (notFace_of_selects (args := #[]) (mvT hZ (w30 hw))) (w30 hw) (w29 hw) (w4 hw) (w31 hw) (by decide) e0 E_0 (b5 l Z a0 hw a1 a2 kb zc h0 n0 O0 E_0 F_1 F_2 A_3 S_4 r_5) (argsL := [(.int (69 : Int32))]) (rest := []) rfl (lenOf pd_10 rfl) rfl (by rw [hml]; rfl) (W := 0) (Nat.le_of_eq rfl) (hb hby d4_3) (by decide) (by decide) (by decide) (by decide) rfl ?_
  rintro T1 h1 _ L1 X1 e1 ⟨r_1, rfl, M1, K1, p1_0⟩
  have N1 := Fr.app N0 M1
  by_cases c2 : r_1 < 0
  · refine go_ifY (q := 13) X1 hx (hb hby d4_6) (XT.i0_lt_t c2) (by decide) (by decide) ?_
    refine go_iconst (q := 14) X1 hx (hb hby d4_13) (v := (0 : Int32)) (by decide) rfl ?_
    refine go_retI X1 hx hret hlk e1 (hb hby d4_14) (by simp) (by decide) (by decide) (by decide) ?_
    exact ⟨(0 : Int32), rfl, N1, ((Keep.refl h0 []).trans K1 all0), (Or.inr ⟨rfl, p1_0.mp c2⟩)⟩
  · refine go_ifN (q := 9) X1 hx (hb hby d4_6) (XT.i0_lt_f c2) rfl ?_
    refine go_iconst (q := 10) X1 hx (hb hby d4_9) (v := (1 : Int32)) (by decide) rfl ?_
    refine go_goto (q := 14) X1 hx (hb hby d4_10) (by decide) (by decide) ?_
    refine go_retI X1 hx hret hlk e1 (hb hby d4_14) (by simp) (by decide) (by decide) (by decide) ?_
    exact ⟨(1 : Int32), rfl, N1, ((Keep.refl h0 []).trans K1 all0), (Or.inl ⟨rfl, Classical.not_not.mp (fun z => c2 (p1_0.mpr z))⟩)⟩
set_option maxRecDepth 65536 in
set_option maxHeartbeats 40000000 in
theorem b17 (l : Launch) (Z : State) (a0 : Array Value) (hw : ∀ d ∈ tables_1, d.before a0 Z = true) (a1 : Addr) (kb : ClassId) (x0 : Int32) (h0 : Heap) (n0 : Nat) (O0 : Old Z n0 h0) (A_0 : Arv Z h0 a1 kb .byte (1 : Int32) [(.int x0.toInt8.toInt32)] (.int (0 : Int32))) :
    Con l Z (⟨"java/lang/StringLatin1", "indexOfChar", "([BIII)I"⟩ : MethodName) jdk_43_method_23_code 6 (some .int) ({ frames := 0, cells := 0, slots := 0, locals := 0 } : Room) #[(.ref a1), (.int (69 : Int32)), (.int (0 : Int32)), (.int (1 : Int32))] h0 (fun v h L => ∃ (r : Int32), v = some (.int r) ∧ Fr n0 L ∧ Keep h0 h [] ∧ (r < 0 ↔ ¬ (x0.toInt8.toInt32 = (69 : Int32)))) := by
  refine Con.of (plainFor_of_name pn_2) ?_
  intro p e s m below meth c s₁ hx hby hml hZ hown hnm hret hlk X0 e0
  have N0 := Fr.nil n0
  refine go_cast (g' := mkF m 0 #[.val (.ref a1), .val (.int (69 : Int32)), .val (.int (0 : Int32)), .val (.int (1 : Int32)), .unset, .unset] []) ?_ (by first | (simp [entryFrame, mkF, argsToLocals, Value.category]; done) | rfl)
  refine go_iload_n (q := 1) X0 hx (hb hby d17_0) (v := (69 : Int32)) rfl rfl ?_
  refine go_i2b (q := 2) X0 hx (hb hby d17_1) (v := (69 : Int32)) (by decide) rfl ?_
  refine go_istore (q := 4) X0 hx (hb hby d17_2) (l' := #[.val (.ref a1), .val (.int (69 : Int32)), .val (.int (0 : Int32)), .val (.int (1 : Int32)), .val (.int (69 : Int32)), .unset]) rfl rfl ?_
  refine go_iload_n (q := 5) X0 hx (hb hby d17_4) (v := (0 : Int32)) rfl rfl ?_
  refine go_istore (q := 7) X0 hx (hb hby d17_5) (l' := #[.val (.ref a1), .val (.int (69 : Int32)), .val (.int (0 : Int32)), .val (.int (1 : Int32)), .val (.int (69 : Int32)), .val (.int (0 : Int32))]) rfl rfl ?_
  refine go_iload (q := 9) X0 hx (hb hby d17_7) (v := (0 : Int32)) rfl rfl ?_
  refine go_iload_n (q := 10) X0 hx (hb hby d17_9) (v := (1 : Int32)) rfl rfl ?_
  refine go_icmpN (q := 13) X0 hx (hb hby d17_10) (XT.ii_ge_f (by decide)) rfl ?_
  refine go_aload_n (q := 14) X0 hx (hb hby d17_13) (v := (.ref a1)) rfl rfl rfl ?_
  refine go_iload (q := 16) X0 hx (hb hby d17_14) (v := (0 : Int32)) rfl rfl ?_
  refine go_baload (q := 17) (j := (0 : Int32)) (v := (.int x0.toInt8.toInt32)) X0 hx hZ e0 A_0 (by decide) rfl (hb hby d17_16) rfl ?_
  refine go_iload (q := 19) X0 hx (hb hby d17_17) (v := (69 : Int32)) rfl rfl ?_
  by_cases c1 : x0.toInt8.toInt32 = (69 : Int32)
  · refine go_icmpN (q := 22) X0 hx (hb hby d17_19) (XT.ii_ne_f c1) rfl ?_
    refine go_iload (q := 24) X0 hx (hb hby d17_22) (v := (0 : Int32)) rfl rfl ?_
    refine go_retI X0 hx hret hlk e0 (hb hby d17_24) (by simp) rfl (by decide) (by decide) ?_
    exact ⟨(0 : Int32), rfl, N0, (Keep.refl h0 []), (by simp [c1])⟩
  · refine go_icmpY (q := 25) X0 hx (hb hby d17_19) (XT.ii_ne_t c1) (by decide) (by decide) ?_
    refine go_iinc (q := 28) X0 hx (hb hby d17_25) (x := (0 : Int32)) (v := (1 : Int32)) rfl (by first | rfl | decide) (l' := #[.val (.ref a1), .val (.int (69 : Int32)), .val (.int (0 : Int32)), .val (.int (1 : Int32)), .val (.int (69 : Int32)), .val (.int (1 : Int32))]) rfl rfl ?_
    refine go_goto (q := 7) X0 hx (hb hby d17_28) (by decide) (by decide) ?_
    refine go_iload (q := 9) X0 hx (hb hby d17_7) (v := (1 : Int32)) rfl rfl ?_
    refine go_iload_n (q := 10) X0 hx (hb hby d17_9) (v := (1 : Int32)) rfl rfl ?_
    refine go_icmpY (q := 31) X0 hx (hb hby d17_10) (XT.ii_ge_t (by decide)) (by decide) (by decide) ?_
    refine go_iconst (q := 32) X0 hx (hb hby d17_31) (v := (-1 : Int32)) (by decide) rfl ?_
    refine go_retI X0 hx hret hlk e0 (hb hby d17_32) (by simp) rfl (by decide) (by decide) ?_
    exact ⟨(-1 : Int32), rfl, N0, (Keep.refl h0 []), (by simp [c1])⟩
set_option maxRecDepth 65536 in
set_option maxHeartbeats 40000000 in
theorem b10_1 (l : Launch) (Z : State) (a0 : Array Value) (hw : ∀ d ∈ tables_1, d.before a0 Z = true) (a1 : Addr) (kb : ClassId) (x0 : Int32) (h0 : Heap) (n0 : Nat) (O0 : Old Z n0 h0) (A_0 : Arv Z h0 a1 kb .byte (1 : Int32) [(.int x0.toInt8.toInt32)] (.int (0 : Int32))) :
    Con l Z (⟨"java/lang/StringLatin1", "indexOf", "([BIII)I"⟩ : MethodName) jdk_43_method_22_code 4 (some .int) ({ frames := 1, cells := 0, slots := 0, locals := 17 } : Room) #[(.ref a1), (.int (69 : Int32)), (.int (0 : Int32)), (.int (1 : Int32))] h0 (fun v h L => ∃ (r : Int32), v = some (.int r) ∧ Fr n0 L ∧ Keep h0 h [] ∧ (r < 0 ↔ ¬ (x0.toInt8.toInt32 = (69 : Int32)))) := by
  refine Con.of (plainFor_of_name pn_2) ?_
  intro p e s m below meth c s₁ hx hby hml hZ hown hnm hret hlk X0 e0
  have N0 := Fr.nil n0
  refine go_cast (g' := mkF m 0 #[.val (.ref a1), .val (.int (69 : Int32)), .val (.int (0 : Int32)), .val (.int (1 : Int32))] []) ?_ (by first | (simp [entryFrame, mkF, argsToLocals, Value.category]; done) | rfl)
  refine go_iload_n (q := 1) X0 hx (hb hby d10_0) (v := (69 : Int32)) rfl rfl ?_
  refine go_static (q := 4) X0 hx hZ hown (y := (⟨"java/lang/StringLatin1", "canEncode", "(I)Z"⟩ : MethodName)) (w57 hw) (w58 hw) (w55 hw) (w59 hw) (by decide) e0 (b11 l Z a0 hw  h0 n0 O0 ) (argsL := [(.int (69 : Int32))]) (rest := []) rfl (lenOf pd_5 rfl) rfl (by rw [hml]; rfl) (W := 0) (Nat.le_of_eq rfl) (hb hby d10_1) (by decide) (by decide) (by decide) (by decide) rfl ?_
  rintro T1 h1 _ L1 X1 e1 ⟨rfl, M1, K1⟩
  have N1 := Fr.app N0 M1
  refine go_ifY (q := 9) X1 hx (hb hby d10_4) (XT.i0_ne_t (by decide)) (by decide) (by decide) ?_
  refine go_iload_n (q := 10) X1 hx (hb hby d10_9) (v := (0 : Int32)) rfl rfl ?_
  refine go_iconst (q := 11) X1 hx (hb hby d10_10) (v := (0 : Int32)) (by decide) rfl ?_
  have O2 : Old Z n0 h1 := (O0.keep K1 all0)
  refine go_static (q := 14) X1 hx hZ hown (y := (⟨"java/lang/Math", "max", "(II)I"⟩ : MethodName)) (w60 hw) (w61 hw) (w62 hw) (w63 hw) (by decide) e1 (b12 l Z a0 hw  h1 n0 O2 ) (argsL := [(.int (0 : Int32)), (.int (0 : Int32))]) (rest := []) rfl (lenOf pd_6 rfl) rfl (by rw [hml]; rfl) (W := 0) (Nat.le_of_eq rfl) (hb hby d10_11) (by decide) (by decide) (by decide) (by decide) rfl ?_
  rintro T3 h3 _ L3 X3 e3 ⟨rfl, M3, K3⟩
  have N3 := Fr.app N1 M3
  refine go_istore_n (q := 15) X3 hx (hb hby d10_14) (l' := #[.val (.ref a1), .val (.int (69 : Int32)), .val (.int (0 : Int32)), .val (.int (1 : Int32))]) rfl rfl ?_
  refine go_iload_n (q := 16) X3 hx (hb hby d10_15) (v := (1 : Int32)) rfl rfl ?_
  refine go_aload_n (q := 17) X3 hx (hb hby d10_16) (v := (.ref a1)) rfl rfl rfl ?_
  have f4 : Arv Z h3 a1 kb .byte (1 : Int32) [(.int x0.toInt8.toInt32)] (.int (0 : Int32)) := ((A_0.keep K1 nin0).keep K3 nin0)
  refine go_alen (q := 18) X3 hx hZ e3 f4 (hb hby d10_17) rfl ?_
  have O5 : Old Z n0 h3 := (O2.keep K3 all0)
  refine go_static (q := 21) X3 hx hZ hown (y := (⟨"java/lang/Math", "min", "(II)I"⟩ : MethodName)) (w64 hw) (w65 hw) (w62 hw) (w66 hw) (by decide) e3 (b13_1 l Z a0 hw  h3 n0 O5 ) (argsL := [(.int (1 : Int32)), (.int (1 : Int32))]) (rest := []) rfl (lenOf pd_6 rfl) rfl (by rw [hml]; rfl) (W := 0) (Nat.le_of_eq rfl) (hb hby d10_18) (by decide) (by decide) (by decide) (by decide) rfl ?_
  rintro T6 h6 _ L6 X6 e6 ⟨rfl, M6, K6⟩
  have N6 := Fr.app N3 M6
  refine go_istore_n (q := 22) X6 hx (hb hby d10_21) (l' := #[.val (.ref a1), .val (.int (69 : Int32)), .val (.int (0 : Int32)), .val (.int (1 : Int32))]) rfl rfl ?_
  refine go_iload_n (q := 23) X6 hx (hb hby d10_22) (v := (0 : Int32)) rfl rfl ?_
  refine go_iload_n (q := 24) X6 hx (hb hby d10_23) (v := (1 : Int32)) rfl rfl ?_
  refine go_icmpY (q := 29) X6 hx (hb hby d10_24) (XT.ii_lt_t (by decide)) (by decide) (by decide) ?_
  refine go_aload_n (q := 30) X6 hx (hb hby d10_29) (v := (.ref a1)) rfl rfl rfl ?_
  refine go_iload_n (q := 31) X6 hx (hb hby d10_30) (v := (69 : Int32)) rfl rfl ?_
  refine go_iload_n (q := 32) X6 hx (hb hby d10_31) (v := (0 : Int32)) rfl rfl ?_
  refine go_iload_n (q := 33) X6 hx (hb hby d10_32) (v := (1 : Int32)) rfl rfl ?_
  have f7 : Arv Z h6 a1 kb .byte (1 : Int32) [(.int x0.toInt8.toInt32)] (.int (0 : Int32)) := (f4.keep K6 nin0)
  have O8 : Old Z n0 h6 := (O5.keep K6 all0)
  refine go_static (q := 36) X6 hx hZ hown (y := (⟨"java/lang/StringLatin1", "indexOfChar", "([BIII)I"⟩ : MethodName)) (w77 hw) (w78 hw) (w55 hw) (w79 hw) (by decide) e6 (b17 l Z a0 hw a1 kb x0 h6 n0 O8 f7) (argsL := [(.ref a1), (.int (69 : Int32)), (.int (0 : Int32)), (.int (1 : Int32))]) (rest := []) rfl (lenOf pd_9 rfl) rfl (by rw [hml]; rfl) (W := 0) (Nat.le_of_eq rfl) (hb hby d10_33) (by decide) (by decide) (by decide) (by decide) rfl ?_
  rintro T9 h9 _ L9 X9 e9 ⟨r_9, rfl, M9, K9, p9_0⟩
  have N9 := Fr.app N6 M9
  refine go_retI X9 hx hret hlk e9 (hb hby d10_36) (by simp) rfl (by decide) (by decide) ?_
  exact ⟨r_9, rfl, N9, (((((Keep.refl h0 []).trans K1 all0).trans K3 all0).trans K6 all0).trans K9 all0), p9_0⟩
set_option maxRecDepth 65536 in
set_option maxHeartbeats 40000000 in
theorem b6_1 (l : Launch) (Z : State) (a0 : Array Value) (hw : ∀ d ∈ tables_1, d.before a0 Z = true) (a1 : Addr) (a2 : Addr) (kb : ClassId) (zc : Int32) (x0 : Int32) (h0 : Heap) (n0 : Nat) (O0 : Old Z n0 h0) (E_0 : Exa Z h0 a1 "java/lang/String") (F_1 : Fld Z h0 a1 "java/lang/String" "value" "[B" (.ref a2)) (F_2 : Fld Z h0 a1 "java/lang/String" "coder" "B" (.int (0 : Int32))) (A_3 : Arv Z h0 a2 kb .byte (1 : Int32) [(.int x0.toInt8.toInt32)] (.int (0 : Int32))) (S_4 : Sta Z Z.heap "java/lang/String" "COMPACT_STRINGS" "Z" (.int zc)) (r_5 : (¬ zc = 0)) :
    Con l Z (⟨"java/lang/String", "indexOf", "(II)I"⟩ : MethodName) jdk_42_method_80_code 3 (some .int) ({ frames := 2, cells := 0, slots := 0, locals := 32 } : Room) #[(.ref a1), (.int (69 : Int32)), (.int (0 : Int32))] h0 (fun v h L => ∃ (r : Int32), v = some (.int r) ∧ Fr n0 L ∧ Keep h0 h [] ∧ (r < 0 ↔ ¬ (x0.toInt8.toInt32 = (69 : Int32)))) := by
  refine Con.of (plainFor_of_name pn_1) ?_
  intro p e s m below meth c s₁ hx hby hml hZ hown hnm hret hlk X0 e0
  have N0 := Fr.nil n0
  refine go_cast (g' := mkF m 0 #[.val (.ref a1), .val (.int (69 : Int32)), .val (.int (0 : Int32))] []) ?_ (by first | (simp [entryFrame, mkF, argsToLocals, Value.category]; done) | rfl)
  refine go_aload_n (q := 1) X0 hx (hb hby d6_0) (v := (.ref a1)) rfl rfl rfl ?_
  refine go_virtual (q := 4) X0 hx hZ hown (y := (⟨"java/lang/String", "isLatin1", "()Z"⟩ : MethodName)) (z := (⟨"java/lang/String", "isLatin1", "()Z"⟩ : MethodName)) (a := a1) (w37 hw) (w38 hw) (notFace_of_selects (args := #[]) (mvT hZ (w40 hw))) (w40 hw) (w39 hw) (w4 hw) (w41 hw) (by decide) e0 E_0 (b7 l Z a0 hw a1 zc h0 n0 O0 F_2 S_4 r_5) (argsL := []) (rest := []) rfl (lenOf pd_7 rfl) rfl (by rw [hml]; rfl) (W := 0) (Nat.le_of_eq rfl) (hb hby d6_1) (by decide) (by decide) (by decide) (by decide) rfl ?_
  rintro T1 h1 _ L1 X1 e1 ⟨rfl, M1, K1⟩
  have N1 := Fr.app N0 M1
  refine go_ifN (q := 7) X1 hx (hb hby d6_4) (XT.i0_eq_f (by decide)) rfl ?_
  refine go_aload_n (q := 8) X1 hx (hb hby d6_7) (v := (.ref a1)) rfl rfl rfl ?_
  have f2 : Fld Z h1 a1 "java/lang/String" "value" "[B" (.ref a2) := (F_1.keep K1 nin0)
  refine go_getF (q := 11) (host := "") X1 hx hZ hown (Or.inl (w21 hw)) Via.refl e1 f2 (hb hby d6_8) rfl ?_
  intro T3 X3 e3
  refine go_iload_n (q := 12) X3 hx (hb hby d6_11) (v := (69 : Int32)) rfl rfl ?_
  refine go_iload_n (q := 13) X3 hx (hb hby d6_12) (v := (0 : Int32)) rfl rfl ?_
  refine go_aload_n (q := 14) X3 hx (hb hby d6_13) (v := (.ref a1)) rfl rfl rfl ?_
  have f4 : Exa Z h1 a1 "java/lang/String" := (E_0.keep K1)
  have f5 : Fld Z h1 a1 "java/lang/String" "coder" "B" (.int (0 : Int32)) := (F_2.keep K1 nin0)
  have f6 : Arv Z h1 a2 kb .byte (1 : Int32) [(.int x0.toInt8.toInt32)] (.int (0 : Int32)) := (A_3.keep K1 nin0)
  have O7 : Old Z n0 h1 := (O0.keep K1 all0)
  refine go_virtual (q := 17) X3 hx hZ hown (y := (⟨"java/lang/String", "length", "()I"⟩ : MethodName)) (z := (⟨"java/lang/String", "length", "()I"⟩ : MethodName)) (a := a1) (w43 hw) (w44 hw) (notFace_of_selects (args := #[]) (mvT hZ (w46 hw))) (w46 hw) (w45 hw) (w4 hw) (w47 hw) (by decide) e3 f4 (b8 l Z a0 hw a1 a2 kb (1 : Int32) [(.int x0.toInt8.toInt32)] (.int (0 : Int32)) zc h1 n0 O7 f4 f2 f5 f6 S_4 r_5) (argsL := []) (rest := [(.int (0 : Int32)), (.int (69 : Int32)), (.ref a2)]) rfl (lenOf pd_8 rfl) rfl (by rw [hml]; rfl) (W := 3) (Nat.le_of_eq rfl) (hb hby d6_14) (by decide) (by decide) (by decide) (by decide) rfl ?_
  rintro T8 h8 _ L8 X8 e8 ⟨rfl, M8, K8⟩
  have N8 := Fr.app N1 M8
  have f9 : Arv Z h8 a2 kb .byte (1 : Int32) [(.int x0.toInt8.toInt32)] (.int (0 : Int32)) := (f6.keep K8 nin0)
  have O10 : Old Z n0 h8 := (O7.keep K8 all0)
  refine go_static (q := 20) X8 hx hZ hown (y := (⟨"java/lang/StringLatin1", "indexOf", "([BIII)I"⟩ : MethodName)) (w53 hw) (w54 hw) (w55 hw) (w56 hw) (by decide) e8 (b10_1 l Z a0 hw a2 kb x0 h8 n0 O10 f9) (argsL := [(.ref a2), (.int (69 : Int32)), (.int (0 : Int32)), (.int (1 : Int32))]) (rest := []) rfl (lenOf pd_9 rfl) rfl (by rw [hml]; rfl) (W := 0) (Nat.le_of_eq rfl) (hb hby d6_17) (by decide) (by decide) (by decide) (by decide) rfl ?_
  have f12 : Fld Z h8 a1 "java/lang/String" "coder" "B" (.int (0 : Int32)) := (f5.keep K8 nin0)
  rintro T11 h11 _ L11 X11 e11 ⟨r_11, rfl, M11, K11, p11_0⟩
  have N11 := Fr.app N8 M11
  refine go_goto (q := 36) X11 hx (hb hby d6_20) (by decide) (by decide) ?_
  refine go_retI X11 hx hret hlk e11 (hb hby d6_36) (by simp) rfl (by decide) (by decide) ?_
  exact ⟨r_11, rfl, N11, ((((Keep.refl h0 []).trans K1 all0).trans K8 all0).trans K11 all0), p11_0⟩
set_option maxRecDepth 65536 in
set_option maxHeartbeats 40000000 in
theorem b5_1 (l : Launch) (Z : State) (a0 : Array Value) (hw : ∀ d ∈ tables_1, d.before a0 Z = true) (a1 : Addr) (a2 : Addr) (kb : ClassId) (zc : Int32) (x0 : Int32) (h0 : Heap) (n0 : Nat) (O0 : Old Z n0 h0) (E_0 : Exa Z h0 a1 "java/lang/String") (F_1 : Fld Z h0 a1 "java/lang/String" "value" "[B" (.ref a2)) (F_2 : Fld Z h0 a1 "java/lang/String" "coder" "B" (.int (0 : Int32))) (A_3 : Arv Z h0 a2 kb .byte (1 : Int32) [(.int x0.toInt8.toInt32)] (.int (0 : Int32))) (S_4 : Sta Z Z.heap "java/lang/String" "COMPACT_STRINGS" "Z" (.int zc)) (r_5 : (¬ zc = 0)) :
    Con l Z (⟨"java/lang/String", "indexOf", "(I)I"⟩ : MethodName) jdk_42_method_79_code 2 (some .int) ({ frames := 3, cells := 0, slots := 0, locals := 46 } : Room) #[(.ref a1), (.int (69 : Int32))] h0 (fun v h L => ∃ (r : Int32), v = some (.int r) ∧ Fr n0 L ∧ Keep h0 h [] ∧ (r < 0 ↔ ¬ (x0.toInt8.toInt32 = (69 : Int32)))) := by
  refine Con.of (plainFor_of_name pn_1) ?_
  intro p e s m below meth c s₁ hx hby hml hZ hown hnm hret hlk X0 e0
  have N0 := Fr.nil n0
  refine go_cast (g' := mkF m 0 #[.val (.ref a1), .val (.int (69 : Int32))] []) ?_ (by first | (simp [entryFrame, mkF, argsToLocals, Value.category]; done) | rfl)
  refine go_aload_n (q := 1) X0 hx (hb hby d5_0) (v := (.ref a1)) rfl rfl rfl ?_
  refine go_iload_n (q := 2) X0 hx (hb hby d5_1) (v := (69 : Int32)) rfl rfl ?_
  refine go_iconst (q := 3) X0 hx (hb hby d5_2) (v := (0 : Int32)) (by decide) rfl ?_
  refine go_virtual (q := 6) X0 hx hZ hown (y := (⟨"java/lang/String", "indexOf", "(II)I"⟩ : MethodName)) (z := (⟨"java/lang/String", "indexOf", "(II)I"⟩ : MethodName)) (a := a1) (w32 hw) (w33 hw) (notFace_of_selects (args := #[]) (mvT hZ (w35 hw))) (w35 hw) (w34 hw) (w4 hw) (w36 hw) (by decide) e0 E_0 (b6_1 l Z a0 hw a1 a2 kb zc x0 h0 n0 O0 E_0 F_1 F_2 A_3 S_4 r_5) (argsL := [(.int (69 : Int32)), (.int (0 : Int32))]) (rest := []) rfl (lenOf pd_6 rfl) rfl (by rw [hml]; rfl) (W := 0) (Nat.le_of_eq rfl) (hb hby d5_3) (by decide) (by decide) (by decide) (by decide) rfl ?_
  rintro T1 h1 _ L1 X1 e1 ⟨r_1, rfl, M1, K1, p1_0⟩
  have N1 := Fr.app N0 M1
  refine go_retI X1 hx hret hlk e1 (hb hby d5_6) (by simp) rfl (by decide) (by decide) ?_
  exact ⟨r_1, rfl, N1, ((Keep.refl h0 []).trans K1 all0), p1_0⟩
set_option maxRecDepth 65536 in
set_option maxHeartbeats 40000000 in
theorem b4_1 (l : Launch) (Z : State) (a0 : Array Value) (hw : ∀ d ∈ tables_1, d.before a0 Z = true) (a1 : Addr) (a2 : Addr) (kb : ClassId) (zc : Int32) (x0 : Int32) (h0 : Heap) (n0 : Nat) (O0 : Old Z n0 h0) (E_0 : Exa Z h0 a1 "java/lang/String") (F_1 : Fld Z h0 a1 "java/lang/String" "value" "[B" (.ref a2)) (F_2 : Fld Z h0 a1 "java/lang/String" "coder" "B" (.int (0 : Int32))) (A_3 : Arv Z h0 a2 kb .byte (1 : Int32) [(.int x0.toInt8.toInt32)] (.int (0 : Int32))) (S_4 : Sta Z Z.heap "java/lang/String" "COMPACT_STRINGS" "Z" (.int zc)) (r_5 : (¬ zc = 0)) :
    Con l Z (⟨"com/example/harborspread/harborspread/Decimals", "isTooLong", "(Ljava/lang/String;)Z"⟩ : MethodName) prog_21_method_3_code 1 (some .boolean) ({ frames := 4, cells := 0, slots := 0, locals := 59 } : Room) #[(.ref a1)] h0 (fun v h L => ∃ (r : Int32), v = some (.int r) ∧ Fr n0 L ∧ Keep h0 h [] ∧ ((r = 1 ∧ (x0.toInt8.toInt32 = (69 : Int32))) ∨ (r = 0 ∧ ¬ (x0.toInt8.toInt32 = (69 : Int32))))) := by
  refine Con.of (plainFor_of_name pn_3) ?_
  intro p e s m below meth c s₁ hx hby hml hZ hown hnm hret hlk X0 e0
  have N0 := Fr.nil n0
  refine go_cast (g' := mkF m 0 #[.val (.ref a1)] []) ?_ (by first | (simp [entryFrame, mkF, argsToLocals, Value.category]; done) | rfl)
  refine go_aload_n (q := 1) X0 hx (hb hby d4_0) (v := (.ref a1)) rfl rfl rfl ?_
  refine go_bipush (q := 3) X0 hx (hb hby d4_1) (v := (69 : Int32)) (by decide) rfl ?_
  refine go_virtual (q := 6) X0 hx hZ hown (y := (⟨"java/lang/String", "indexOf", "(I)I"⟩ : MethodName)) (z := (⟨"java/lang/String", "indexOf", "(I)I"⟩ : MethodName)) (a := a1) (w27 hw) (w28 hw) (notFace_of_selects (args := #[]) (mvT hZ (w30 hw))) (w30 hw) (w29 hw) (w4 hw) (w31 hw) (by decide) e0 E_0 (b5_1 l Z a0 hw a1 a2 kb zc x0 h0 n0 O0 E_0 F_1 F_2 A_3 S_4 r_5) (argsL := [(.int (69 : Int32))]) (rest := []) rfl (lenOf pd_10 rfl) rfl (by rw [hml]; rfl) (W := 0) (Nat.le_of_eq rfl) (hb hby d4_3) (by decide) (by decide) (by decide) (by decide) rfl ?_
  rintro T1 h1 _ L1 X1 e1 ⟨r_1, rfl, M1, K1, p1_0⟩
  have N1 := Fr.app N0 M1
  by_cases c2 : r_1 < 0
  · refine go_ifY (q := 13) X1 hx (hb hby d4_6) (XT.i0_lt_t c2) (by decide) (by decide) ?_
    refine go_iconst (q := 14) X1 hx (hb hby d4_13) (v := (0 : Int32)) (by decide) rfl ?_
    refine go_retI X1 hx hret hlk e1 (hb hby d4_14) (by simp) (by decide) (by decide) (by decide) ?_
    exact ⟨(0 : Int32), rfl, N1, ((Keep.refl h0 []).trans K1 all0), (Or.inr ⟨rfl, p1_0.mp c2⟩)⟩
  · refine go_ifN (q := 9) X1 hx (hb hby d4_6) (XT.i0_lt_f c2) rfl ?_
    refine go_iconst (q := 10) X1 hx (hb hby d4_9) (v := (1 : Int32)) (by decide) rfl ?_
    refine go_goto (q := 14) X1 hx (hb hby d4_10) (by decide) (by decide) ?_
    refine go_retI X1 hx hret hlk e1 (hb hby d4_14) (by simp) (by decide) (by decide) (by decide) ?_
    exact ⟨(1 : Int32), rfl, N1, ((Keep.refl h0 []).trans K1 all0), (Or.inl ⟨rfl, Classical.not_not.mp (fun z => c2 (p1_0.mpr z))⟩)⟩
set_option maxRecDepth 65536 in
set_option maxHeartbeats 40000000 in
theorem b17_1 (l : Launch) (Z : State) (a0 : Array Value) (hw : ∀ d ∈ tables_1, d.before a0 Z = true) (a1 : Addr) (kb : ClassId) (x0 : Int32) (x1 : Int32) (h0 : Heap) (n0 : Nat) (O0 : Old Z n0 h0) (A_0 : Arv Z h0 a1 kb .byte (2 : Int32) [(.int x0.toInt8.toInt32), (.int x1.toInt8.toInt32)] (.int (0 : Int32))) :
    Con l Z (⟨"java/lang/StringLatin1", "indexOfChar", "([BIII)I"⟩ : MethodName) jdk_43_method_23_code 6 (some .int) ({ frames := 0, cells := 0, slots := 0, locals := 0 } : Room) #[(.ref a1), (.int (69 : Int32)), (.int (0 : Int32)), (.int (2 : Int32))] h0 (fun v h L => ∃ (r : Int32), v = some (.int r) ∧ Fr n0 L ∧ Keep h0 h [] ∧ (r < 0 ↔ ¬ (x0.toInt8.toInt32 = (69 : Int32) ∨ x1.toInt8.toInt32 = (69 : Int32)))) := by
  refine Con.of (plainFor_of_name pn_2) ?_
  intro p e s m below meth c s₁ hx hby hml hZ hown hnm hret hlk X0 e0
  have N0 := Fr.nil n0
  refine go_cast (g' := mkF m 0 #[.val (.ref a1), .val (.int (69 : Int32)), .val (.int (0 : Int32)), .val (.int (2 : Int32)), .unset, .unset] []) ?_ (by first | (simp [entryFrame, mkF, argsToLocals, Value.category]; done) | rfl)
  refine go_iload_n (q := 1) X0 hx (hb hby d17_0) (v := (69 : Int32)) rfl rfl ?_
  refine go_i2b (q := 2) X0 hx (hb hby d17_1) (v := (69 : Int32)) (by decide) rfl ?_
  refine go_istore (q := 4) X0 hx (hb hby d17_2) (l' := #[.val (.ref a1), .val (.int (69 : Int32)), .val (.int (0 : Int32)), .val (.int (2 : Int32)), .val (.int (69 : Int32)), .unset]) rfl rfl ?_
  refine go_iload_n (q := 5) X0 hx (hb hby d17_4) (v := (0 : Int32)) rfl rfl ?_
  refine go_istore (q := 7) X0 hx (hb hby d17_5) (l' := #[.val (.ref a1), .val (.int (69 : Int32)), .val (.int (0 : Int32)), .val (.int (2 : Int32)), .val (.int (69 : Int32)), .val (.int (0 : Int32))]) rfl rfl ?_
  refine go_iload (q := 9) X0 hx (hb hby d17_7) (v := (0 : Int32)) rfl rfl ?_
  refine go_iload_n (q := 10) X0 hx (hb hby d17_9) (v := (2 : Int32)) rfl rfl ?_
  refine go_icmpN (q := 13) X0 hx (hb hby d17_10) (XT.ii_ge_f (by decide)) rfl ?_
  refine go_aload_n (q := 14) X0 hx (hb hby d17_13) (v := (.ref a1)) rfl rfl rfl ?_
  refine go_iload (q := 16) X0 hx (hb hby d17_14) (v := (0 : Int32)) rfl rfl ?_
  refine go_baload (q := 17) (j := (0 : Int32)) (v := (.int x0.toInt8.toInt32)) X0 hx hZ e0 A_0 (by decide) rfl (hb hby d17_16) rfl ?_
  refine go_iload (q := 19) X0 hx (hb hby d17_17) (v := (69 : Int32)) rfl rfl ?_
  by_cases c1 : x0.toInt8.toInt32 = (69 : Int32)
  · refine go_icmpN (q := 22) X0 hx (hb hby d17_19) (XT.ii_ne_f c1) rfl ?_
    refine go_iload (q := 24) X0 hx (hb hby d17_22) (v := (0 : Int32)) rfl rfl ?_
    refine go_retI X0 hx hret hlk e0 (hb hby d17_24) (by simp) rfl (by decide) (by decide) ?_
    exact ⟨(0 : Int32), rfl, N0, (Keep.refl h0 []), (by simp [c1])⟩
  · refine go_icmpY (q := 25) X0 hx (hb hby d17_19) (XT.ii_ne_t c1) (by decide) (by decide) ?_
    refine go_iinc (q := 28) X0 hx (hb hby d17_25) (x := (0 : Int32)) (v := (1 : Int32)) rfl (by first | rfl | decide) (l' := #[.val (.ref a1), .val (.int (69 : Int32)), .val (.int (0 : Int32)), .val (.int (2 : Int32)), .val (.int (69 : Int32)), .val (.int (1 : Int32))]) rfl rfl ?_
    refine go_goto (q := 7) X0 hx (hb hby d17_28) (by decide) (by decide) ?_
    refine go_iload (q := 9) X0 hx (hb hby d17_7) (v := (1 : Int32)) rfl rfl ?_
    refine go_iload_n (q := 10) X0 hx (hb hby d17_9) (v := (2 : Int32)) rfl rfl ?_
    refine go_icmpN (q := 13) X0 hx (hb hby d17_10) (XT.ii_ge_f (by decide)) rfl ?_
    refine go_aload_n (q := 14) X0 hx (hb hby d17_13) (v := (.ref a1)) rfl rfl rfl ?_
    refine go_iload (q := 16) X0 hx (hb hby d17_14) (v := (1 : Int32)) rfl rfl ?_
    refine go_baload (q := 17) (j := (1 : Int32)) (v := (.int x1.toInt8.toInt32)) X0 hx hZ e0 A_0 (by decide) rfl (hb hby d17_16) rfl ?_
    refine go_iload (q := 19) X0 hx (hb hby d17_17) (v := (69 : Int32)) rfl rfl ?_
    by_cases c2 : x1.toInt8.toInt32 = (69 : Int32)
    · refine go_icmpN (q := 22) X0 hx (hb hby d17_19) (XT.ii_ne_f c2) rfl ?_
      refine go_iload (q := 24) X0 hx (hb hby d17_22) (v := (1 : Int32)) rfl rfl ?_
      refine go_retI X0 hx hret hlk e0 (hb hby d17_24) (by simp) rfl (by decide) (by decide) ?_
      exact ⟨(1 : Int32), rfl, N0, (Keep.refl h0 []), (by simp [c1, c2])⟩
    · refine go_icmpY (q := 25) X0 hx (hb hby d17_19) (XT.ii_ne_t c2) (by decide) (by decide) ?_
      refine go_iinc (q := 28) X0 hx (hb hby d17_25) (x := (1 : Int32)) (v := (2 : Int32)) rfl (by first | rfl | decide) (l' := #[.val (.ref a1), .val (.int (69 : Int32)), .val (.int (0 : Int32)), .val (.int (2 : Int32)), .val (.int (69 : Int32)), .val (.int (2 : Int32))]) rfl rfl ?_
      refine go_goto (q := 7) X0 hx (hb hby d17_28) (by decide) (by decide) ?_
      refine go_iload (q := 9) X0 hx (hb hby d17_7) (v := (2 : Int32)) rfl rfl ?_
      refine go_iload_n (q := 10) X0 hx (hb hby d17_9) (v := (2 : Int32)) rfl rfl ?_
      refine go_icmpY (q := 31) X0 hx (hb hby d17_10) (XT.ii_ge_t (by decide)) (by decide) (by decide) ?_
      refine go_iconst (q := 32) X0 hx (hb hby d17_31) (v := (-1 : Int32)) (by decide) rfl ?_
      refine go_retI X0 hx hret hlk e0 (hb hby d17_32) (by simp) rfl (by decide) (by decide) ?_
      exact ⟨(-1 : Int32), rfl, N0, (Keep.refl h0 []), (by simp [c1, c2])⟩
set_option maxRecDepth 65536 in
set_option maxHeartbeats 40000000 in
theorem b10_2 (l : Launch) (Z : State) (a0 : Array Value) (hw : ∀ d ∈ tables_1, d.before a0 Z = true) (a1 : Addr) (kb : ClassId) (x0 : Int32) (x1 : Int32) (h0 : Heap) (n0 : Nat) (O0 : Old Z n0 h0) (A_0 : Arv Z h0 a1 kb .byte (2 : Int32) [(.int x0.toInt8.toInt32), (.int x1.toInt8.toInt32)] (.int (0 : Int32))) :
    Con l Z (⟨"java/lang/StringLatin1", "indexOf", "([BIII)I"⟩ : MethodName) jdk_43_method_22_code 4 (some .int) ({ frames := 1, cells := 0, slots := 0, locals := 17 } : Room) #[(.ref a1), (.int (69 : Int32)), (.int (0 : Int32)), (.int (2 : Int32))] h0 (fun v h L => ∃ (r : Int32), v = some (.int r) ∧ Fr n0 L ∧ Keep h0 h [] ∧ (r < 0 ↔ ¬ (x0.toInt8.toInt32 = (69 : Int32) ∨ x1.toInt8.toInt32 = (69 : Int32)))) := by
  refine Con.of (plainFor_of_name pn_2) ?_
  intro p e s m below meth c s₁ hx hby hml hZ hown hnm hret hlk X0 e0
  have N0 := Fr.nil n0
  refine go_cast (g' := mkF m 0 #[.val (.ref a1), .val (.int (69 : Int32)), .val (.int (0 : Int32)), .val (.int (2 : Int32))] []) ?_ (by first | (simp [entryFrame, mkF, argsToLocals, Value.category]; done) | rfl)
  refine go_iload_n (q := 1) X0 hx (hb hby d10_0) (v := (69 : Int32)) rfl rfl ?_
  refine go_static (q := 4) X0 hx hZ hown (y := (⟨"java/lang/StringLatin1", "canEncode", "(I)Z"⟩ : MethodName)) (w57 hw) (w58 hw) (w55 hw) (w59 hw) (by decide) e0 (b11 l Z a0 hw  h0 n0 O0 ) (argsL := [(.int (69 : Int32))]) (rest := []) rfl (lenOf pd_5 rfl) rfl (by rw [hml]; rfl) (W := 0) (Nat.le_of_eq rfl) (hb hby d10_1) (by decide) (by decide) (by decide) (by decide) rfl ?_
  rintro T1 h1 _ L1 X1 e1 ⟨rfl, M1, K1⟩
  have N1 := Fr.app N0 M1
  refine go_ifY (q := 9) X1 hx (hb hby d10_4) (XT.i0_ne_t (by decide)) (by decide) (by decide) ?_
  refine go_iload_n (q := 10) X1 hx (hb hby d10_9) (v := (0 : Int32)) rfl rfl ?_
  refine go_iconst (q := 11) X1 hx (hb hby d10_10) (v := (0 : Int32)) (by decide) rfl ?_
  have O2 : Old Z n0 h1 := (O0.keep K1 all0)
  refine go_static (q := 14) X1 hx hZ hown (y := (⟨"java/lang/Math", "max", "(II)I"⟩ : MethodName)) (w60 hw) (w61 hw) (w62 hw) (w63 hw) (by decide) e1 (b12 l Z a0 hw  h1 n0 O2 ) (argsL := [(.int (0 : Int32)), (.int (0 : Int32))]) (rest := []) rfl (lenOf pd_6 rfl) rfl (by rw [hml]; rfl) (W := 0) (Nat.le_of_eq rfl) (hb hby d10_11) (by decide) (by decide) (by decide) (by decide) rfl ?_
  rintro T3 h3 _ L3 X3 e3 ⟨rfl, M3, K3⟩
  have N3 := Fr.app N1 M3
  refine go_istore_n (q := 15) X3 hx (hb hby d10_14) (l' := #[.val (.ref a1), .val (.int (69 : Int32)), .val (.int (0 : Int32)), .val (.int (2 : Int32))]) rfl rfl ?_
  refine go_iload_n (q := 16) X3 hx (hb hby d10_15) (v := (2 : Int32)) rfl rfl ?_
  refine go_aload_n (q := 17) X3 hx (hb hby d10_16) (v := (.ref a1)) rfl rfl rfl ?_
  have f4 : Arv Z h3 a1 kb .byte (2 : Int32) [(.int x0.toInt8.toInt32), (.int x1.toInt8.toInt32)] (.int (0 : Int32)) := ((A_0.keep K1 nin0).keep K3 nin0)
  refine go_alen (q := 18) X3 hx hZ e3 f4 (hb hby d10_17) rfl ?_
  have O5 : Old Z n0 h3 := (O2.keep K3 all0)
  refine go_static (q := 21) X3 hx hZ hown (y := (⟨"java/lang/Math", "min", "(II)I"⟩ : MethodName)) (w64 hw) (w65 hw) (w62 hw) (w66 hw) (by decide) e3 (b13_2 l Z a0 hw  h3 n0 O5 ) (argsL := [(.int (2 : Int32)), (.int (2 : Int32))]) (rest := []) rfl (lenOf pd_6 rfl) rfl (by rw [hml]; rfl) (W := 0) (Nat.le_of_eq rfl) (hb hby d10_18) (by decide) (by decide) (by decide) (by decide) rfl ?_
  rintro T6 h6 _ L6 X6 e6 ⟨rfl, M6, K6⟩
  have N6 := Fr.app N3 M6
  refine go_istore_n (q := 22) X6 hx (hb hby d10_21) (l' := #[.val (.ref a1), .val (.int (69 : Int32)), .val (.int (0 : Int32)), .val (.int (2 : Int32))]) rfl rfl ?_
  refine go_iload_n (q := 23) X6 hx (hb hby d10_22) (v := (0 : Int32)) rfl rfl ?_
  refine go_iload_n (q := 24) X6 hx (hb hby d10_23) (v := (2 : Int32)) rfl rfl ?_
  refine go_icmpY (q := 29) X6 hx (hb hby d10_24) (XT.ii_lt_t (by decide)) (by decide) (by decide) ?_
  refine go_aload_n (q := 30) X6 hx (hb hby d10_29) (v := (.ref a1)) rfl rfl rfl ?_
  refine go_iload_n (q := 31) X6 hx (hb hby d10_30) (v := (69 : Int32)) rfl rfl ?_
  refine go_iload_n (q := 32) X6 hx (hb hby d10_31) (v := (0 : Int32)) rfl rfl ?_
  refine go_iload_n (q := 33) X6 hx (hb hby d10_32) (v := (2 : Int32)) rfl rfl ?_
  have f7 : Arv Z h6 a1 kb .byte (2 : Int32) [(.int x0.toInt8.toInt32), (.int x1.toInt8.toInt32)] (.int (0 : Int32)) := (f4.keep K6 nin0)
  have O8 : Old Z n0 h6 := (O5.keep K6 all0)
  refine go_static (q := 36) X6 hx hZ hown (y := (⟨"java/lang/StringLatin1", "indexOfChar", "([BIII)I"⟩ : MethodName)) (w77 hw) (w78 hw) (w55 hw) (w79 hw) (by decide) e6 (b17_1 l Z a0 hw a1 kb x0 x1 h6 n0 O8 f7) (argsL := [(.ref a1), (.int (69 : Int32)), (.int (0 : Int32)), (.int (2 : Int32))]) (rest := []) rfl (lenOf pd_9 rfl) rfl (by rw [hml]; rfl) (W := 0) (Nat.le_of_eq rfl) (hb hby d10_33) (by decide) (by decide) (by decide) (by decide) rfl ?_
  rintro T9 h9 _ L9 X9 e9 ⟨r_9, rfl, M9, K9, p9_0⟩
  have N9 := Fr.app N6 M9
  refine go_retI X9 hx hret hlk e9 (hb hby d10_36) (by simp) rfl (by decide) (by decide) ?_
  exact ⟨r_9, rfl, N9, (((((Keep.refl h0 []).trans K1 all0).trans K3 all0).trans K6 all0).trans K9 all0), p9_0⟩
set_option maxRecDepth 65536 in
set_option maxHeartbeats 40000000 in
theorem b6_2 (l : Launch) (Z : State) (a0 : Array Value) (hw : ∀ d ∈ tables_1, d.before a0 Z = true) (a1 : Addr) (a2 : Addr) (kb : ClassId) (zc : Int32) (x0 : Int32) (x1 : Int32) (h0 : Heap) (n0 : Nat) (O0 : Old Z n0 h0) (E_0 : Exa Z h0 a1 "java/lang/String") (F_1 : Fld Z h0 a1 "java/lang/String" "value" "[B" (.ref a2)) (F_2 : Fld Z h0 a1 "java/lang/String" "coder" "B" (.int (0 : Int32))) (A_3 : Arv Z h0 a2 kb .byte (2 : Int32) [(.int x0.toInt8.toInt32), (.int x1.toInt8.toInt32)] (.int (0 : Int32))) (S_4 : Sta Z Z.heap "java/lang/String" "COMPACT_STRINGS" "Z" (.int zc)) (r_5 : (¬ zc = 0)) :
    Con l Z (⟨"java/lang/String", "indexOf", "(II)I"⟩ : MethodName) jdk_42_method_80_code 3 (some .int) ({ frames := 2, cells := 0, slots := 0, locals := 32 } : Room) #[(.ref a1), (.int (69 : Int32)), (.int (0 : Int32))] h0 (fun v h L => ∃ (r : Int32), v = some (.int r) ∧ Fr n0 L ∧ Keep h0 h [] ∧ (r < 0 ↔ ¬ (x0.toInt8.toInt32 = (69 : Int32) ∨ x1.toInt8.toInt32 = (69 : Int32)))) := by
  refine Con.of (plainFor_of_name pn_1) ?_
  intro p e s m below meth c s₁ hx hby hml hZ hown hnm hret hlk X0 e0
  have N0 := Fr.nil n0
  refine go_cast (g' := mkF m 0 #[.val (.ref a1), .val (.int (69 : Int32)), .val (.int (0 : Int32))] []) ?_ (by first | (simp [entryFrame, mkF, argsToLocals, Value.category]; done) | rfl)
  refine go_aload_n (q := 1) X0 hx (hb hby d6_0) (v := (.ref a1)) rfl rfl rfl ?_
  refine go_virtual (q := 4) X0 hx hZ hown (y := (⟨"java/lang/String", "isLatin1", "()Z"⟩ : MethodName)) (z := (⟨"java/lang/String", "isLatin1", "()Z"⟩ : MethodName)) (a := a1) (w37 hw) (w38 hw) (notFace_of_selects (args := #[]) (mvT hZ (w40 hw))) (w40 hw) (w39 hw) (w4 hw) (w41 hw) (by decide) e0 E_0 (b7 l Z a0 hw a1 zc h0 n0 O0 F_2 S_4 r_5) (argsL := []) (rest := []) rfl (lenOf pd_7 rfl) rfl (by rw [hml]; rfl) (W := 0) (Nat.le_of_eq rfl) (hb hby d6_1) (by decide) (by decide) (by decide) (by decide) rfl ?_
  rintro T1 h1 _ L1 X1 e1 ⟨rfl, M1, K1⟩
  have N1 := Fr.app N0 M1
  refine go_ifN (q := 7) X1 hx (hb hby d6_4) (XT.i0_eq_f (by decide)) rfl ?_
  refine go_aload_n (q := 8) X1 hx (hb hby d6_7) (v := (.ref a1)) rfl rfl rfl ?_
  have f2 : Fld Z h1 a1 "java/lang/String" "value" "[B" (.ref a2) := (F_1.keep K1 nin0)
  refine go_getF (q := 11) (host := "") X1 hx hZ hown (Or.inl (w21 hw)) Via.refl e1 f2 (hb hby d6_8) rfl ?_
  intro T3 X3 e3
  refine go_iload_n (q := 12) X3 hx (hb hby d6_11) (v := (69 : Int32)) rfl rfl ?_
  refine go_iload_n (q := 13) X3 hx (hb hby d6_12) (v := (0 : Int32)) rfl rfl ?_
  refine go_aload_n (q := 14) X3 hx (hb hby d6_13) (v := (.ref a1)) rfl rfl rfl ?_
  have f4 : Exa Z h1 a1 "java/lang/String" := (E_0.keep K1)
  have f5 : Fld Z h1 a1 "java/lang/String" "coder" "B" (.int (0 : Int32)) := (F_2.keep K1 nin0)
  have f6 : Arv Z h1 a2 kb .byte (2 : Int32) [(.int x0.toInt8.toInt32), (.int x1.toInt8.toInt32)] (.int (0 : Int32)) := (A_3.keep K1 nin0)
  have O7 : Old Z n0 h1 := (O0.keep K1 all0)
  refine go_virtual (q := 17) X3 hx hZ hown (y := (⟨"java/lang/String", "length", "()I"⟩ : MethodName)) (z := (⟨"java/lang/String", "length", "()I"⟩ : MethodName)) (a := a1) (w43 hw) (w44 hw) (notFace_of_selects (args := #[]) (mvT hZ (w46 hw))) (w46 hw) (w45 hw) (w4 hw) (w47 hw) (by decide) e3 f4 (b8 l Z a0 hw a1 a2 kb (2 : Int32) [(.int x0.toInt8.toInt32), (.int x1.toInt8.toInt32)] (.int (0 : Int32)) zc h1 n0 O7 f4 f2 f5 f6 S_4 r_5) (argsL := []) (rest := [(.int (0 : Int32)), (.int (69 : Int32)), (.ref a2)]) rfl (lenOf pd_8 rfl) rfl (by rw [hml]; rfl) (W := 3) (Nat.le_of_eq rfl) (hb hby d6_14) (by decide) (by decide) (by decide) (by decide) rfl ?_
  rintro T8 h8 _ L8 X8 e8 ⟨rfl, M8, K8⟩
  have N8 := Fr.app N1 M8
  have f9 : Arv Z h8 a2 kb .byte (2 : Int32) [(.int x0.toInt8.toInt32), (.int x1.toInt8.toInt32)] (.int (0 : Int32)) := (f6.keep K8 nin0)
  have O10 : Old Z n0 h8 := (O7.keep K8 all0)
  refine go_static (q := 20) X8 hx hZ hown (y := (⟨"java/lang/StringLatin1", "indexOf", "([BIII)I"⟩ : MethodName)) (w53 hw) (w54 hw) (w55 hw) (w56 hw) (by decide) e8 (b10_2 l Z a0 hw a2 kb x0 x1 h8 n0 O10 f9) (argsL := [(.ref a2), (.int (69 : Int32)), (.int (0 : Int32)), (.int (2 : Int32))]) (rest := []) rfl (lenOf pd_9 rfl) rfl (by rw [hml]; rfl) (W := 0) (Nat.le_of_eq rfl) (hb hby d6_17) (by decide) (by decide) (by decide) (by decide) rfl ?_
  have f12 : Fld Z h8 a1 "java/lang/String" "coder" "B" (.int (0 : Int32)) := (f5.keep K8 nin0)
  rintro T11 h11 _ L11 X11 e11 ⟨r_11, rfl, M11, K11, p11_0⟩
  have N11 := Fr.app N8 M11
  refine go_goto (q := 36) X11 hx (hb hby d6_20) (by decide) (by decide) ?_
  refine go_retI X11 hx hret hlk e11 (hb hby d6_36) (by simp) rfl (by decide) (by decide) ?_
  exact ⟨r_11, rfl, N11, ((((Keep.refl h0 []).trans K1 all0).trans K8 all0).trans K11 all0), p11_0⟩
set_option maxRecDepth 65536 in
set_option maxHeartbeats 40000000 in
theorem b5_2 (l : Launch) (Z : State) (a0 : Array Value) (hw : ∀ d ∈ tables_1, d.before a0 Z = true) (a1 : Addr) (a2 : Addr) (kb : ClassId) (zc : Int32) (x0 : Int32) (x1 : Int32) (h0 : Heap) (n0 : Nat) (O0 : Old Z n0 h0) (E_0 : Exa Z h0 a1 "java/lang/String") (F_1 : Fld Z h0 a1 "java/lang/String" "value" "[B" (.ref a2)) (F_2 : Fld Z h0 a1 "java/lang/String" "coder" "B" (.int (0 : Int32))) (A_3 : Arv Z h0 a2 kb .byte (2 : Int32) [(.int x0.toInt8.toInt32), (.int x1.toInt8.toInt32)] (.int (0 : Int32))) (S_4 : Sta Z Z.heap "java/lang/String" "COMPACT_STRINGS" "Z" (.int zc)) (r_5 : (¬ zc = 0)) :
    Con l Z (⟨"java/lang/String", "indexOf", "(I)I"⟩ : MethodName) jdk_42_method_79_code 2 (some .int) ({ frames := 3, cells := 0, slots := 0, locals := 46 } : Room) #[(.ref a1), (.int (69 : Int32))] h0 (fun v h L => ∃ (r : Int32), v = some (.int r) ∧ Fr n0 L ∧ Keep h0 h [] ∧ (r < 0 ↔ ¬ (x0.toInt8.toInt32 = (69 : Int32) ∨ x1.toInt8.toInt32 = (69 : Int32)))) := by
  refine Con.of (plainFor_of_name pn_1) ?_
  intro p e s m below meth c s₁ hx hby hml hZ hown hnm hret hlk X0 e0
  have N0 := Fr.nil n0
  refine go_cast (g' := mkF m 0 #[.val (.ref a1), .val (.int (69 : Int32))] []) ?_ (by first | (simp [entryFrame, mkF, argsToLocals, Value.category]; done) | rfl)
  refine go_aload_n (q := 1) X0 hx (hb hby d5_0) (v := (.ref a1)) rfl rfl rfl ?_
  refine go_iload_n (q := 2) X0 hx (hb hby d5_1) (v := (69 : Int32)) rfl rfl ?_
  refine go_iconst (q := 3) X0 hx (hb hby d5_2) (v := (0 : Int32)) (by decide) rfl ?_
  refine go_virtual (q := 6) X0 hx hZ hown (y := (⟨"java/lang/String", "indexOf", "(II)I"⟩ : MethodName)) (z := (⟨"java/lang/String", "indexOf", "(II)I"⟩ : MethodName)) (a := a1) (w32 hw) (w33 hw) (notFace_of_selects (args := #[]) (mvT hZ (w35 hw))) (w35 hw) (w34 hw) (w4 hw) (w36 hw) (by decide) e0 E_0 (b6_2 l Z a0 hw a1 a2 kb zc x0 x1 h0 n0 O0 E_0 F_1 F_2 A_3 S_4 r_5) (argsL := [(.int (69 : Int32)), (.int (0 : Int32))]) (rest := []) rfl (lenOf pd_6 rfl) rfl (by rw [hml]; rfl) (W := 0) (Nat.le_of_eq rfl) (hb hby d5_3) (by decide) (by decide) (by decide) (by decide) rfl ?_
  rintro T1 h1 _ L1 X1 e1 ⟨r_1, rfl, M1, K1, p1_0⟩
  have N1 := Fr.app N0 M1
  refine go_retI X1 hx hret hlk e1 (hb hby d5_6) (by simp) rfl (by decide) (by decide) ?_
  exact ⟨r_1, rfl, N1, ((Keep.refl h0 []).trans K1 all0), p1_0⟩
set_option maxRecDepth 65536 in
set_option maxHeartbeats 40000000 in
theorem b4_2 (l : Launch) (Z : State) (a0 : Array Value) (hw : ∀ d ∈ tables_1, d.before a0 Z = true) (a1 : Addr) (a2 : Addr) (kb : ClassId) (zc : Int32) (x0 : Int32) (x1 : Int32) (h0 : Heap) (n0 : Nat) (O0 : Old Z n0 h0) (E_0 : Exa Z h0 a1 "java/lang/String") (F_1 : Fld Z h0 a1 "java/lang/String" "value" "[B" (.ref a2)) (F_2 : Fld Z h0 a1 "java/lang/String" "coder" "B" (.int (0 : Int32))) (A_3 : Arv Z h0 a2 kb .byte (2 : Int32) [(.int x0.toInt8.toInt32), (.int x1.toInt8.toInt32)] (.int (0 : Int32))) (S_4 : Sta Z Z.heap "java/lang/String" "COMPACT_STRINGS" "Z" (.int zc)) (r_5 : (¬ zc = 0)) :
    Con l Z (⟨"com/example/harborspread/harborspread/Decimals", "isTooLong", "(Ljava/lang/String;)Z"⟩ : MethodName) prog_21_method_3_code 1 (some .boolean) ({ frames := 4, cells := 0, slots := 0, locals := 59 } : Room) #[(.ref a1)] h0 (fun v h L => ∃ (r : Int32), v = some (.int r) ∧ Fr n0 L ∧ Keep h0 h [] ∧ ((r = 1 ∧ (x0.toInt8.toInt32 = (69 : Int32) ∨ x1.toInt8.toInt32 = (69 : Int32))) ∨ (r = 0 ∧ ¬ (x0.toInt8.toInt32 = (69 : Int32) ∨ x1.toInt8.toInt32 = (69 : Int32))))) := by
  refine Con.of (plainFor_of_name pn_3) ?_
  intro p e s m below meth c s₁ hx hby hml hZ hown hnm hret hlk X0 e0
  have N0 := Fr.nil n0
  refine go_cast (g' := mkF m 0 #[.val (.ref a1)] []) ?_ (by first | (simp [entryFrame, mkF, argsToLocals, Value.category]; done) | rfl)
  refine go_aload_n (q := 1) X0 hx (hb hby d4_0) (v := (.ref a1)) rfl rfl rfl ?_
  refine go_bipush (q := 3) X0 hx (hb hby d4_1) (v := (69 : Int32)) (by decide) rfl ?_
  refine go_virtual (q := 6) X0 hx hZ hown (y := (⟨"java/lang/String", "indexOf", "(I)I"⟩ : MethodName)) (z := (⟨"java/lang/String", "indexOf", "(I)I"⟩ : MethodName)) (a := a1) (w27 hw) (w28 hw) (notFace_of_selects (args := #[]) (mvT hZ (w30 hw))) (w30 hw) (w29 hw) (w4 hw) (w31 hw) (by decide) e0 E_0 (b5_2 l Z a0 hw a1 a2 kb zc x0 x1 h0 n0 O0 E_0 F_1 F_2 A_3 S_4 r_5) (argsL := [(.int (69 : Int32))]) (rest := []) rfl (lenOf pd_10 rfl) rfl (by rw [hml]; rfl) (W := 0) (Nat.le_of_eq rfl) (hb hby d4_3) (by decide) (by decide) (by decide) (by decide) rfl ?_
  rintro T1 h1 _ L1 X1 e1 ⟨r_1, rfl, M1, K1, p1_0⟩
  have N1 := Fr.app N0 M1
  by_cases c2 : r_1 < 0
  · refine go_ifY (q := 13) X1 hx (hb hby d4_6) (XT.i0_lt_t c2) (by decide) (by decide) ?_
    refine go_iconst (q := 14) X1 hx (hb hby d4_13) (v := (0 : Int32)) (by decide) rfl ?_
    refine go_retI X1 hx hret hlk e1 (hb hby d4_14) (by simp) (by decide) (by decide) (by decide) ?_
    exact ⟨(0 : Int32), rfl, N1, ((Keep.refl h0 []).trans K1 all0), (Or.inr ⟨rfl, p1_0.mp c2⟩)⟩
  · refine go_ifN (q := 9) X1 hx (hb hby d4_6) (XT.i0_lt_f c2) rfl ?_
    refine go_iconst (q := 10) X1 hx (hb hby d4_9) (v := (1 : Int32)) (by decide) rfl ?_
    refine go_goto (q := 14) X1 hx (hb hby d4_10) (by decide) (by decide) ?_
    refine go_retI X1 hx hret hlk e1 (hb hby d4_14) (by simp) (by decide) (by decide) (by decide) ?_
    exact ⟨(1 : Int32), rfl, N1, ((Keep.refl h0 []).trans K1 all0), (Or.inl ⟨rfl, Classical.not_not.mp (fun z => c2 (p1_0.mpr z))⟩)⟩
set_option maxRecDepth 65536 in
set_option maxHeartbeats 40000000 in
theorem b17_2 (l : Launch) (Z : State) (a0 : Array Value) (hw : ∀ d ∈ tables_1, d.before a0 Z = true) (a1 : Addr) (kb : ClassId) (x0 : Int32) (x1 : Int32) (x2 : Int32) (h0 : Heap) (n0 : Nat) (O0 : Old Z n0 h0) (A_0 : Arv Z h0 a1 kb .byte (3 : Int32) [(.int x0.toInt8.toInt32), (.int x1.toInt8.toInt32), (.int x2.toInt8.toInt32)] (.int (0 : Int32))) :
    Con l Z (⟨"java/lang/StringLatin1", "indexOfChar", "([BIII)I"⟩ : MethodName) jdk_43_method_23_code 6 (some .int) ({ frames := 0, cells := 0, slots := 0, locals := 0 } : Room) #[(.ref a1), (.int (69 : Int32)), (.int (0 : Int32)), (.int (3 : Int32))] h0 (fun v h L => ∃ (r : Int32), v = some (.int r) ∧ Fr n0 L ∧ Keep h0 h [] ∧ (r < 0 ↔ ¬ (x0.toInt8.toInt32 = (69 : Int32) ∨ x1.toInt8.toInt32 = (69 : Int32) ∨ x2.toInt8.toInt32 = (69 : Int32)))) := by
  refine Con.of (plainFor_of_name pn_2) ?_
  intro p e s m below meth c s₁ hx hby hml hZ hown hnm hret hlk X0 e0
  have N0 := Fr.nil n0
  refine go_cast (g' := mkF m 0 #[.val (.ref a1), .val (.int (69 : Int32)), .val (.int (0 : Int32)), .val (.int (3 : Int32)), .unset, .unset] []) ?_ (by first | (simp [entryFrame, mkF, argsToLocals, Value.category]; done) | rfl)
  refine go_iload_n (q := 1) X0 hx (hb hby d17_0) (v := (69 : Int32)) rfl rfl ?_
  refine go_i2b (q := 2) X0 hx (hb hby d17_1) (v := (69 : Int32)) (by decide) rfl ?_
  refine go_istore (q := 4) X0 hx (hb hby d17_2) (l' := #[.val (.ref a1), .val (.int (69 : Int32)), .val (.int (0 : Int32)), .val (.int (3 : Int32)), .val (.int (69 : Int32)), .unset]) rfl rfl ?_
  refine go_iload_n (q := 5) X0 hx (hb hby d17_4) (v := (0 : Int32)) rfl rfl ?_
  refine go_istore (q := 7) X0 hx (hb hby d17_5) (l' := #[.val (.ref a1), .val (.int (69 : Int32)), .val (.int (0 : Int32)), .val (.int (3 : Int32)), .val (.int (69 : Int32)), .val (.int (0 : Int32))]) rfl rfl ?_
  refine go_iload (q := 9) X0 hx (hb hby d17_7) (v := (0 : Int32)) rfl rfl ?_
  refine go_iload_n (q := 10) X0 hx (hb hby d17_9) (v := (3 : Int32)) rfl rfl ?_
  refine go_icmpN (q := 13) X0 hx (hb hby d17_10) (XT.ii_ge_f (by decide)) rfl ?_
  refine go_aload_n (q := 14) X0 hx (hb hby d17_13) (v := (.ref a1)) rfl rfl rfl ?_
  refine go_iload (q := 16) X0 hx (hb hby d17_14) (v := (0 : Int32)) rfl rfl ?_
  refine go_baload (q := 17) (j := (0 : Int32)) (v := (.int x0.toInt8.toInt32)) X0 hx hZ e0 A_0 (by decide) rfl (hb hby d17_16) rfl ?_
  refine go_iload (q := 19) X0 hx (hb hby d17_17) (v := (69 : Int32)) rfl rfl ?_
  by_cases c1 : x0.toInt8.toInt32 = (69 : Int32)
  · refine go_icmpN (q := 22) X0 hx (hb hby d17_19) (XT.ii_ne_f c1) rfl ?_
    refine go_iload (q := 24) X0 hx (hb hby d17_22) (v := (0 : Int32)) rfl rfl ?_
    refine go_retI X0 hx hret hlk e0 (hb hby d17_24) (by simp) rfl (by decide) (by decide) ?_
    exact ⟨(0 : Int32), rfl, N0, (Keep.refl h0 []), (by simp [c1])⟩
  · refine go_icmpY (q := 25) X0 hx (hb hby d17_19) (XT.ii_ne_t c1) (by decide) (by decide) ?_
    refine go_iinc (q := 28) X0 hx (hb hby d17_25) (x := (0 : Int32)) (v := (1 : Int32)) rfl (by first | rfl | decide) (l' := #[.val (.ref a1), .val (.int (69 : Int32)), .val (.int (0 : Int32)), .val (.int (3 : Int32)), .val (.int (69 : Int32)), .val (.int (1 : Int32))]) rfl rfl ?_
    refine go_goto (q := 7) X0 hx (hb hby d17_28) (by decide) (by decide) ?_
    refine go_iload (q := 9) X0 hx (hb hby d17_7) (v := (1 : Int32)) rfl rfl ?_
    refine go_iload_n (q := 10) X0 hx (hb hby d17_9) (v := (3 : Int32)) rfl rfl ?_
    refine go_icmpN (q := 13) X0 hx (hb hby d17_10) (XT.ii_ge_f (by decide)) rfl ?_
    refine go_aload_n (q := 14) X0 hx (hb hby d17_13) (v := (.ref a1)) rfl rfl rfl ?_
    refine go_iload (q := 16) X0 hx (hb hby d17_14) (v := (1 : Int32)) rfl rfl ?_
    refine go_baload (q := 17) (j := (1 : Int32)) (v := (.int x1.toInt8.toInt32)) X0 hx hZ e0 A_0 (by decide) rfl (hb hby d17_16) rfl ?_
    refine go_iload (q := 19) X0 hx (hb hby d17_17) (v := (69 : Int32)) rfl rfl ?_
    by_cases c2 : x1.toInt8.toInt32 = (69 : Int32)
    · refine go_icmpN (q := 22) X0 hx (hb hby d17_19) (XT.ii_ne_f c2) rfl ?_
      refine go_iload (q := 24) X0 hx (hb hby d17_22) (v := (1 : Int32)) rfl rfl ?_
      refine go_retI X0 hx hret hlk e0 (hb hby d17_24) (by simp) rfl (by decide) (by decide) ?_
      exact ⟨(1 : Int32), rfl, N0, (Keep.refl h0 []), (by simp [c1, c2])⟩
    · refine go_icmpY (q := 25) X0 hx (hb hby d17_19) (XT.ii_ne_t c2) (by decide) (by decide) ?_
      refine go_iinc (q := 28) X0 hx (hb hby d17_25) (x := (1 : Int32)) (v := (2 : Int32)) rfl (by first | rfl | decide) (l' := #[.val (.ref a1), .val (.int (69 : Int32)), .val (.int (0 : Int32)), .val (.int (3 : Int32)), .val (.int (69 : Int32)), .val (.int (2 : Int32))]) rfl rfl ?_
      refine go_goto (q := 7) X0 hx (hb hby d17_28) (by decide) (by decide) ?_
      refine go_iload (q := 9) X0 hx (hb hby d17_7) (v := (2 : Int32)) rfl rfl ?_
      refine go_iload_n (q := 10) X0 hx (hb hby d17_9) (v := (3 : Int32)) rfl rfl ?_
      refine go_icmpN (q := 13) X0 hx (hb hby d17_10) (XT.ii_ge_f (by decide)) rfl ?_
      refine go_aload_n (q := 14) X0 hx (hb hby d17_13) (v := (.ref a1)) rfl rfl rfl ?_
      refine go_iload (q := 16) X0 hx (hb hby d17_14) (v := (2 : Int32)) rfl rfl ?_
      refine go_baload (q := 17) (j := (2 : Int32)) (v := (.int x2.toInt8.toInt32)) X0 hx hZ e0 A_0 (by decide) rfl (hb hby d17_16) rfl ?_
      refine go_iload (q := 19) X0 hx (hb hby d17_17) (v := (69 : Int32)) rfl rfl ?_
      by_cases c3 : x2.toInt8.toInt32 = (69 : Int32)
      · refine go_icmpN (q := 22) X0 hx (hb hby d17_19) (XT.ii_ne_f c3) rfl ?_
        refine go_iload (q := 24) X0 hx (hb hby d17_22) (v := (2 : Int32)) rfl rfl ?_
        refine go_retI X0 hx hret hlk e0 (hb hby d17_24) (by simp) rfl (by decide) (by decide) ?_
        exact ⟨(2 : Int32), rfl, N0, (Keep.refl h0 []), (by simp [c1, c2, c3])⟩
      · refine go_icmpY (q := 25) X0 hx (hb hby d17_19) (XT.ii_ne_t c3) (by decide) (by decide) ?_
        refine go_iinc (q := 28) X0 hx (hb hby d17_25) (x := (2 : Int32)) (v := (3 : Int32)) rfl (by first | rfl | decide) (l' := #[.val (.ref a1), .val (.int (69 : Int32)), .val (.int (0 : Int32)), .val (.int (3 : Int32)), .val (.int (69 : Int32)), .val (.int (3 : Int32))]) rfl rfl ?_
        refine go_goto (q := 7) X0 hx (hb hby d17_28) (by decide) (by decide) ?_
        refine go_iload (q := 9) X0 hx (hb hby d17_7) (v := (3 : Int32)) rfl rfl ?_
        refine go_iload_n (q := 10) X0 hx (hb hby d17_9) (v := (3 : Int32)) rfl rfl ?_
        refine go_icmpY (q := 31) X0 hx (hb hby d17_10) (XT.ii_ge_t (by decide)) (by decide) (by decide) ?_
        refine go_iconst (q := 32) X0 hx (hb hby d17_31) (v := (-1 : Int32)) (by decide) rfl ?_
        refine go_retI X0 hx hret hlk e0 (hb hby d17_32) (by simp) rfl (by decide) (by decide) ?_
        exact ⟨(-1 : Int32), rfl, N0, (Keep.refl h0 []), (by simp [c1, c2, c3])⟩
set_option maxRecDepth 65536 in
set_option maxHeartbeats 40000000 in
theorem b10_3 (l : Launch) (Z : State) (a0 : Array Value) (hw : ∀ d ∈ tables_1, d.before a0 Z = true) (a1 : Addr) (kb : ClassId) (x0 : Int32) (x1 : Int32) (x2 : Int32) (h0 : Heap) (n0 : Nat) (O0 : Old Z n0 h0) (A_0 : Arv Z h0 a1 kb .byte (3 : Int32) [(.int x0.toInt8.toInt32), (.int x1.toInt8.toInt32), (.int x2.toInt8.toInt32)] (.int (0 : Int32))) :
    Con l Z (⟨"java/lang/StringLatin1", "indexOf", "([BIII)I"⟩ : MethodName) jdk_43_method_22_code 4 (some .int) ({ frames := 1, cells := 0, slots := 0, locals := 17 } : Room) #[(.ref a1), (.int (69 : Int32)), (.int (0 : Int32)), (.int (3 : Int32))] h0 (fun v h L => ∃ (r : Int32), v = some (.int r) ∧ Fr n0 L ∧ Keep h0 h [] ∧ (r < 0 ↔ ¬ (x0.toInt8.toInt32 = (69 : Int32) ∨ x1.toInt8.toInt32 = (69 : Int32) ∨ x2.toInt8.toInt32 = (69 : Int32)))) := by
  refine Con.of (plainFor_of_name pn_2) ?_
  intro p e s m below meth c s₁ hx hby hml hZ hown hnm hret hlk X0 e0
  have N0 := Fr.nil n0
  refine go_cast (g' := mkF m 0 #[.val (.ref a1), .val (.int (69 : Int32)), .val (.int (0 : Int32)), .val (.int (3 : Int32))] []) ?_ (by first | (simp [entryFrame, mkF, argsToLocals, Value.category]; done) | rfl)
  refine go_iload_n (q := 1) X0 hx (hb hby d10_0) (v := (69 : Int32)) rfl rfl ?_
  refine go_static (q := 4) X0 hx hZ hown (y := (⟨"java/lang/StringLatin1", "canEncode", "(I)Z"⟩ : MethodName)) (w57 hw) (w58 hw) (w55 hw) (w59 hw) (by decide) e0 (b11 l Z a0 hw  h0 n0 O0 ) (argsL := [(.int (69 : Int32))]) (rest := []) rfl (lenOf pd_5 rfl) rfl (by rw [hml]; rfl) (W := 0) (Nat.le_of_eq rfl) (hb hby d10_1) (by decide) (by decide) (by decide) (by decide) rfl ?_
  rintro T1 h1 _ L1 X1 e1 ⟨rfl, M1, K1⟩
  have N1 := Fr.app N0 M1
  refine go_ifY (q := 9) X1 hx (hb hby d10_4) (XT.i0_ne_t (by decide)) (by decide) (by decide) ?_
  refine go_iload_n (q := 10) X1 hx (hb hby d10_9) (v := (0 : Int32)) rfl rfl ?_
  refine go_iconst (q := 11) X1 hx (hb hby d10_10) (v := (0 : Int32)) (by decide) rfl ?_
  have O2 : Old Z n0 h1 := (O0.keep K1 all0)
  refine go_static (q := 14) X1 hx hZ hown (y := (⟨"java/lang/Math", "max", "(II)I"⟩ : MethodName)) (w60 hw) (w61 hw) (w62 hw) (w63 hw) (by decide) e1 (b12 l Z a0 hw  h1 n0 O2 ) (argsL := [(.int (0 : Int32)), (.int (0 : Int32))]) (rest := []) rfl (lenOf pd_6 rfl) rfl (by rw [hml]; rfl) (W := 0) (Nat.le_of_eq rfl) (hb hby d10_11) (by decide) (by decide) (by decide) (by decide) rfl ?_
  rintro T3 h3 _ L3 X3 e3 ⟨rfl, M3, K3⟩
  have N3 := Fr.app N1 M3
  refine go_istore_n (q := 15) X3 hx (hb hby d10_14) (l' := #[.val (.ref a1), .val (.int (69 : Int32)), .val (.int (0 : Int32)), .val (.int (3 : Int32))]) rfl rfl ?_
  refine go_iload_n (q := 16) X3 hx (hb hby d10_15) (v := (3 : Int32)) rfl rfl ?_
  refine go_aload_n (q := 17) X3 hx (hb hby d10_16) (v := (.ref a1)) rfl rfl rfl ?_
  have f4 : Arv Z h3 a1 kb .byte (3 : Int32) [(.int x0.toInt8.toInt32), (.int x1.toInt8.toInt32), (.int x2.toInt8.toInt32)] (.int (0 : Int32)) := ((A_0.keep K1 nin0).keep K3 nin0)
  refine go_alen (q := 18) X3 hx hZ e3 f4 (hb hby d10_17) rfl ?_
  have O5 : Old Z n0 h3 := (O2.keep K3 all0)
  refine go_static (q := 21) X3 hx hZ hown (y := (⟨"java/lang/Math", "min", "(II)I"⟩ : MethodName)) (w64 hw) (w65 hw) (w62 hw) (w66 hw) (by decide) e3 (b13_3 l Z a0 hw  h3 n0 O5 ) (argsL := [(.int (3 : Int32)), (.int (3 : Int32))]) (rest := []) rfl (lenOf pd_6 rfl) rfl (by rw [hml]; rfl) (W := 0) (Nat.le_of_eq rfl) (hb hby d10_18) (by decide) (by decide) (by decide) (by decide) rfl ?_
  rintro T6 h6 _ L6 X6 e6 ⟨rfl, M6, K6⟩
  have N6 := Fr.app N3 M6
  refine go_istore_n (q := 22) X6 hx (hb hby d10_21) (l' := #[.val (.ref a1), .val (.int (69 : Int32)), .val (.int (0 : Int32)), .val (.int (3 : Int32))]) rfl rfl ?_
  refine go_iload_n (q := 23) X6 hx (hb hby d10_22) (v := (0 : Int32)) rfl rfl ?_
  refine go_iload_n (q := 24) X6 hx (hb hby d10_23) (v := (3 : Int32)) rfl rfl ?_
  refine go_icmpY (q := 29) X6 hx (hb hby d10_24) (XT.ii_lt_t (by decide)) (by decide) (by decide) ?_
  refine go_aload_n (q := 30) X6 hx (hb hby d10_29) (v := (.ref a1)) rfl rfl rfl ?_
  refine go_iload_n (q := 31) X6 hx (hb hby d10_30) (v := (69 : Int32)) rfl rfl ?_
  refine go_iload_n (q := 32) X6 hx (hb hby d10_31) (v := (0 : Int32)) rfl rfl ?_
  refine go_iload_n (q := 33) X6 hx (hb hby d10_32) (v := (3 : Int32)) rfl rfl ?_
  have f7 : Arv Z h6 a1 kb .byte (3 : Int32) [(.int x0.toInt8.toInt32), (.int x1.toInt8.toInt32), (.int x2.toInt8.toInt32)] (.int (0 : Int32)) := (f4.keep K6 nin0)
  have O8 : Old Z n0 h6 := (O5.keep K6 all0)
  refine go_static (q := 36) X6 hx hZ hown (y := (⟨"java/lang/StringLatin1", "indexOfChar", "([BIII)I"⟩ : MethodName)) (w77 hw) (w78 hw) (w55 hw) (w79 hw) (by decide) e6 (b17_2 l Z a0 hw a1 kb x0 x1 x2 h6 n0 O8 f7) (argsL := [(.ref a1), (.int (69 : Int32)), (.int (0 : Int32)), (.int (3 : Int32))]) (rest := []) rfl (lenOf pd_9 rfl) rfl (by rw [hml]; rfl) (W := 0) (Nat.le_of_eq rfl) (hb hby d10_33) (by decide) (by decide) (by decide) (by decide) rfl ?_
  rintro T9 h9 _ L9 X9 e9 ⟨r_9, rfl, M9, K9, p9_0⟩
  have N9 := Fr.app N6 M9
  refine go_retI X9 hx hret hlk e9 (hb hby d10_36) (by simp) rfl (by decide) (by decide) ?_
  exact ⟨r_9, rfl, N9, (((((Keep.refl h0 []).trans K1 all0).trans K3 all0).trans K6 all0).trans K9 all0), p9_0⟩
set_option maxRecDepth 65536 in
set_option maxHeartbeats 40000000 in
theorem b6_3 (l : Launch) (Z : State) (a0 : Array Value) (hw : ∀ d ∈ tables_1, d.before a0 Z = true) (a1 : Addr) (a2 : Addr) (kb : ClassId) (zc : Int32) (x0 : Int32) (x1 : Int32) (x2 : Int32) (h0 : Heap) (n0 : Nat) (O0 : Old Z n0 h0) (E_0 : Exa Z h0 a1 "java/lang/String") (F_1 : Fld Z h0 a1 "java/lang/String" "value" "[B" (.ref a2)) (F_2 : Fld Z h0 a1 "java/lang/String" "coder" "B" (.int (0 : Int32))) (A_3 : Arv Z h0 a2 kb .byte (3 : Int32) [(.int x0.toInt8.toInt32), (.int x1.toInt8.toInt32), (.int x2.toInt8.toInt32)] (.int (0 : Int32))) (S_4 : Sta Z Z.heap "java/lang/String" "COMPACT_STRINGS" "Z" (.int zc)) (r_5 : (¬ zc = 0)) :
    Con l Z (⟨"java/lang/String", "indexOf", "(II)I"⟩ : MethodName) jdk_42_method_80_code 3 (some .int) ({ frames := 2, cells := 0, slots := 0, locals := 32 } : Room) #[(.ref a1), (.int (69 : Int32)), (.int (0 : Int32))] h0 (fun v h L => ∃ (r : Int32), v = some (.int r) ∧ Fr n0 L ∧ Keep h0 h [] ∧ (r < 0 ↔ ¬ (x0.toInt8.toInt32 = (69 : Int32) ∨ x1.toInt8.toInt32 = (69 : Int32) ∨ x2.toInt8.toInt32 = (69 : Int32)))) := by
  refine Con.of (plainFor_of_name pn_1) ?_
  intro p e s m below meth c s₁ hx hby hml hZ hown hnm hret hlk X0 e0
  have N0 := Fr.nil n0
  refine go_cast (g' := mkF m 0 #[.val (.ref a1), .val (.int (69 : Int32)), .val (.int (0 : Int32))] []) ?_ (by first | (simp [entryFrame, mkF, argsToLocals, Value.category]; done) | rfl)
  refine go_aload_n (q := 1) X0 hx (hb hby d6_0) (v := (.ref a1)) rfl rfl rfl ?_
  refine go_virtual (q := 4) X0 hx hZ hown (y := (⟨"java/lang/String", "isLatin1", "()Z"⟩ : MethodName)) (z := (⟨"java/lang/String", "isLatin1", "()Z"⟩ : MethodName)) (a := a1) (w37 hw) (w38 hw) (notFace_of_selects (args := #[]) (mvT hZ (w40 hw))) (w40 hw) (w39 hw) (w4 hw) (w41 hw) (by decide) e0 E_0 (b7 l Z a0 hw a1 zc h0 n0 O0 F_2 S_4 r_5) (argsL := []) (rest := []) rfl (lenOf pd_7 rfl) rfl (by rw [hml]; rfl) (W := 0) (Nat.le_of_eq rfl) (hb hby d6_1) (by decide) (by decide) (by decide) (by decide) rfl ?_
  rintro T1 h1 _ L1 X1 e1 ⟨rfl, M1, K1⟩
  have N1 := Fr.app N0 M1
  refine go_ifN (q := 7) X1 hx (hb hby d6_4) (XT.i0_eq_f (by decide)) rfl ?_
  refine go_aload_n (q := 8) X1 hx (hb hby d6_7) (v := (.ref a1)) rfl rfl rfl ?_
  have f2 : Fld Z h1 a1 "java/lang/String" "value" "[B" (.ref a2) := (F_1.keep K1 nin0)
  refine go_getF (q := 11) (host := "") X1 hx hZ hown (Or.inl (w21 hw)) Via.refl e1 f2 (hb hby d6_8) rfl ?_
  intro T3 X3 e3
  refine go_iload_n (q := 12) X3 hx (hb hby d6_11) (v := (69 : Int32)) rfl rfl ?_
  refine go_iload_n (q := 13) X3 hx (hb hby d6_12) (v := (0 : Int32)) rfl rfl ?_
  refine go_aload_n (q := 14) X3 hx (hb hby d6_13) (v := (.ref a1)) rfl rfl rfl ?_
  have f4 : Exa Z h1 a1 "java/lang/String" := (E_0.keep K1)
  have f5 : Fld Z h1 a1 "java/lang/String" "coder" "B" (.int (0 : Int32)) := (F_2.keep K1 nin0)
  have f6 : Arv Z h1 a2 kb .byte (3 : Int32) [(.int x0.toInt8.toInt32), (.int x1.toInt8.toInt32), (.int x2.toInt8.toInt32)] (.int (0 : Int32)) := (A_3.keep K1 nin0)
  have O7 : Old Z n0 h1 := (O0.keep K1 all0)
  refine go_virtual (q := 17) X3 hx hZ hown (y := (⟨"java/lang/String", "length", "()I"⟩ : MethodName)) (z := (⟨"java/lang/String", "length", "()I"⟩ : MethodName)) (a := a1) (w43 hw) (w44 hw) (notFace_of_selects (args := #[]) (mvT hZ (w46 hw))) (w46 hw) (w45 hw) (w4 hw) (w47 hw) (by decide) e3 f4 (b8 l Z a0 hw a1 a2 kb (3 : Int32) [(.int x0.toInt8.toInt32), (.int x1.toInt8.toInt32), (.int x2.toInt8.toInt32)] (.int (0 : Int32)) zc h1 n0 O7 f4 f2 f5 f6 S_4 r_5) (argsL := []) (rest := [(.int (0 : Int32)), (.int (69 : Int32)), (.ref a2)]) rfl (lenOf pd_8 rfl) rfl (by rw [hml]; rfl) (W := 3) (Nat.le_of_eq rfl) (hb hby d6_14) (by decide) (by decide) (by decide) (by decide) rfl ?_
  rintro T8 h8 _ L8 X8 e8 ⟨rfl, M8, K8⟩
  have N8 := Fr.app N1 M8
  have f9 : Arv Z h8 a2 kb .byte (3 : Int32) [(.int x0.toInt8.toInt32), (.int x1.toInt8.toInt32), (.int x2.toInt8.toInt32)] (.int (0 : Int32)) := (f6.keep K8 nin0)
  have O10 : Old Z n0 h8 := (O7.keep K8 all0)
  refine go_static (q := 20) X8 hx hZ hown (y := (⟨"java/lang/StringLatin1", "indexOf", "([BIII)I"⟩ : MethodName)) (w53 hw) (w54 hw) (w55 hw) (w56 hw) (by decide) e8 (b10_3 l Z a0 hw a2 kb x0 x1 x2 h8 n0 O10 f9) (argsL := [(.ref a2), (.int (69 : Int32)), (.int (0 : Int32)), (.int (3 : Int32))]) (rest := []) rfl (lenOf pd_9 rfl) rfl (by rw [hml]; rfl) (W := 0) (Nat.le_of_eq rfl) (hb hby d6_17) (by decide) (by decide) (by decide) (by decide) rfl ?_
  have f12 : Fld Z h8 a1 "java/lang/String" "coder" "B" (.int (0 : Int32)) := (f5.keep K8 nin0)
  rintro T11 h11 _ L11 X11 e11 ⟨r_11, rfl, M11, K11, p11_0⟩
  have N11 := Fr.app N8 M11
  refine go_goto (q := 36) X11 hx (hb hby d6_20) (by decide) (by decide) ?_
  refine go_retI X11 hx hret hlk e11 (hb hby d6_36) (by simp) rfl (by decide) (by decide) ?_
  exact ⟨r_11, rfl, N11, ((((Keep.refl h0 []).trans K1 all0).trans K8 all0).trans K11 all0), p11_0⟩
set_option maxRecDepth 65536 in
set_option maxHeartbeats 40000000 in
theorem b5_3 (l : Launch) (Z : State) (a0 : Array Value) (hw : ∀ d ∈ tables_1, d.before a0 Z = true) (a1 : Addr) (a2 : Addr) (kb : ClassId) (zc : Int32) (x0 : Int32) (x1 : Int32) (x2 : Int32) (h0 : Heap) (n0 : Nat) (O0 : Old Z n0 h0) (E_0 : Exa Z h0 a1 "java/lang/String") (F_1 : Fld Z h0 a1 "java/lang/String" "value" "[B" (.ref a2)) (F_2 : Fld Z h0 a1 "java/lang/String" "coder" "B" (.int (0 : Int32))) (A_3 : Arv Z h0 a2 kb .byte (3 : Int32) [(.int x0.toInt8.toInt32), (.int x1.toInt8.toInt32), (.int x2.toInt8.toInt32)] (.int (0 : Int32))) (S_4 : Sta Z Z.heap "java/lang/String" "COMPACT_STRINGS" "Z" (.int zc)) (r_5 : (¬ zc = 0)) :
    Con l Z (⟨"java/lang/String", "indexOf", "(I)I"⟩ : MethodName) jdk_42_method_79_code 2 (some .int) ({ frames := 3, cells := 0, slots := 0, locals := 46 } : Room) #[(.ref a1), (.int (69 : Int32))] h0 (fun v h L => ∃ (r : Int32), v = some (.int r) ∧ Fr n0 L ∧ Keep h0 h [] ∧ (r < 0 ↔ ¬ (x0.toInt8.toInt32 = (69 : Int32) ∨ x1.toInt8.toInt32 = (69 : Int32) ∨ x2.toInt8.toInt32 = (69 : Int32)))) := by
  refine Con.of (plainFor_of_name pn_1) ?_
  intro p e s m below meth c s₁ hx hby hml hZ hown hnm hret hlk X0 e0
  have N0 := Fr.nil n0
  refine go_cast (g' := mkF m 0 #[.val (.ref a1), .val (.int (69 : Int32))] []) ?_ (by first | (simp [entryFrame, mkF, argsToLocals, Value.category]; done) | rfl)
  refine go_aload_n (q := 1) X0 hx (hb hby d5_0) (v := (.ref a1)) rfl rfl rfl ?_
  refine go_iload_n (q := 2) X0 hx (hb hby d5_1) (v := (69 : Int32)) rfl rfl ?_
  refine go_iconst (q := 3) X0 hx (hb hby d5_2) (v := (0 : Int32)) (by decide) rfl ?_
  refine go_virtual (q := 6) X0 hx hZ hown (y := (⟨"java/lang/String", "indexOf", "(II)I"⟩ : MethodName)) (z := (⟨"java/lang/String", "indexOf", "(II)I"⟩ : MethodName)) (a := a1) (w32 hw) (w33 hw) (notFace_of_selects (args := #[]) (mvT hZ (w35 hw))) (w35 hw) (w34 hw) (w4 hw) (w36 hw) (by decide) e0 E_0 (b6_3 l Z a0 hw a1 a2 kb zc x0 x1 x2 h0 n0 O0 E_0 F_1 F_2 A_3 S_4 r_5) (argsL := [(.int (69 : Int32)), (.int (0 : Int32))]) (rest := []) rfl (lenOf pd_6 rfl) rfl (by rw [hml]; rfl) (W := 0) (Nat.le_of_eq rfl) (hb hby d5_3) (by decide) (by decide) (by decide) (by decide) rfl ?_
  rintro T1 h1 _ L1 X1 e1 ⟨r_1, rfl, M1, K1, p1_0⟩
  have N1 := Fr.app N0 M1
  refine go_retI X1 hx hret hlk e1 (hb hby d5_6) (by simp) rfl (by decide) (by decide) ?_
  exact ⟨r_1, rfl, N1, ((Keep.refl h0 []).trans K1 all0), p1_0⟩
set_option maxRecDepth 65536 in
set_option maxHeartbeats 40000000 in
theorem b4_3 (l : Launch) (Z : State) (a0 : Array Value) (hw : ∀ d ∈ tables_1, d.before a0 Z = true) (a1 : Addr) (a2 : Addr) (kb : ClassId) (zc : Int32) (x0 : Int32) (x1 : Int32) (x2 : Int32) (h0 : Heap) (n0 : Nat) (O0 : Old Z n0 h0) (E_0 : Exa Z h0 a1 "java/lang/String") (F_1 : Fld Z h0 a1 "java/lang/String" "value" "[B" (.ref a2)) (F_2 : Fld Z h0 a1 "java/lang/String" "coder" "B" (.int (0 : Int32))) (A_3 : Arv Z h0 a2 kb .byte (3 : Int32) [(.int x0.toInt8.toInt32), (.int x1.toInt8.toInt32), (.int x2.toInt8.toInt32)] (.int (0 : Int32))) (S_4 : Sta Z Z.heap "java/lang/String" "COMPACT_STRINGS" "Z" (.int zc)) (r_5 : (¬ zc = 0)) :
    Con l Z (⟨"com/example/harborspread/harborspread/Decimals", "isTooLong", "(Ljava/lang/String;)Z"⟩ : MethodName) prog_21_method_3_code 1 (some .boolean) ({ frames := 4, cells := 0, slots := 0, locals := 59 } : Room) #[(.ref a1)] h0 (fun v h L => ∃ (r : Int32), v = some (.int r) ∧ Fr n0 L ∧ Keep h0 h [] ∧ ((r = 1 ∧ (x0.toInt8.toInt32 = (69 : Int32) ∨ x1.toInt8.toInt32 = (69 : Int32) ∨ x2.toInt8.toInt32 = (69 : Int32))) ∨ (r = 0 ∧ ¬ (x0.toInt8.toInt32 = (69 : Int32) ∨ x1.toInt8.toInt32 = (69 : Int32) ∨ x2.toInt8.toInt32 = (69 : Int32))))) := by
  refine Con.of (plainFor_of_name pn_3) ?_
  intro p e s m below meth c s₁ hx hby hml hZ hown hnm hret hlk X0 e0
  have N0 := Fr.nil n0
  refine go_cast (g' := mkF m 0 #[.val (.ref a1)] []) ?_ (by first | (simp [entryFrame, mkF, argsToLocals, Value.category]; done) | rfl)
  refine go_aload_n (q := 1) X0 hx (hb hby d4_0) (v := (.ref a1)) rfl rfl rfl ?_
  refine go_bipush (q := 3) X0 hx (hb hby d4_1) (v := (69 : Int32)) (by decide) rfl ?_
  refine go_virtual (q := 6) X0 hx hZ hown (y := (⟨"java/lang/String", "indexOf", "(I)I"⟩ : MethodName)) (z := (⟨"java/lang/String", "indexOf", "(I)I"⟩ : MethodName)) (a := a1) (w27 hw) (w28 hw) (notFace_of_selects (args := #[]) (mvT hZ (w30 hw))) (w30 hw) (w29 hw) (w4 hw) (w31 hw) (by decide) e0 E_0 (b5_3 l Z a0 hw a1 a2 kb zc x0 x1 x2 h0 n0 O0 E_0 F_1 F_2 A_3 S_4 r_5) (argsL := [(.int (69 : Int32))]) (rest := []) rfl (lenOf pd_10 rfl) rfl (by rw [hml]; rfl) (W := 0) (Nat.le_of_eq rfl) (hb hby d4_3) (by decide) (by decide) (by decide) (by decide) rfl ?_
  rintro T1 h1 _ L1 X1 e1 ⟨r_1, rfl, M1, K1, p1_0⟩
  have N1 := Fr.app N0 M1
  by_cases c2 : r_1 < 0
  · refine go_ifY (q := 13) X1 hx (hb hby d4_6) (XT.i0_lt_t c2) (by decide) (by decide) ?_
    refine go_iconst (q := 14) X1 hx (hb hby d4_13) (v := (0 : Int32)) (by decide) rfl ?_
    refine go_retI X1 hx hret hlk e1 (hb hby d4_14) (by simp) (by decide) (by decide) (by decide) ?_
    exact ⟨(0 : Int32), rfl, N1, ((Keep.refl h0 []).trans K1 all0), (Or.inr ⟨rfl, p1_0.mp c2⟩)⟩
  · refine go_ifN (q := 9) X1 hx (hb hby d4_6) (XT.i0_lt_f c2) rfl ?_
    refine go_iconst (q := 10) X1 hx (hb hby d4_9) (v := (1 : Int32)) (by decide) rfl ?_
    refine go_goto (q := 14) X1 hx (hb hby d4_10) (by decide) (by decide) ?_
    refine go_retI X1 hx hret hlk e1 (hb hby d4_14) (by simp) (by decide) (by decide) (by decide) ?_
    exact ⟨(1 : Int32), rfl, N1, ((Keep.refl h0 []).trans K1 all0), (Or.inl ⟨rfl, Classical.not_not.mp (fun z => c2 (p1_0.mpr z))⟩)⟩
set_option maxRecDepth 65536 in
set_option maxHeartbeats 40000000 in
theorem b17_3 (l : Launch) (Z : State) (a0 : Array Value) (hw : ∀ d ∈ tables_1, d.before a0 Z = true) (a1 : Addr) (kb : ClassId) (x0 : Int32) (x1 : Int32) (x2 : Int32) (x3 : Int32) (h0 : Heap) (n0 : Nat) (O0 : Old Z n0 h0) (A_0 : Arv Z h0 a1 kb .byte (4 : Int32) [(.int x0.toInt8.toInt32), (.int x1.toInt8.toInt32), (.int x2.toInt8.toInt32), (.int x3.toInt8.toInt32)] (.int (0 : Int32))) :
    Con l Z (⟨"java/lang/StringLatin1", "indexOfChar", "([BIII)I"⟩ : MethodName) jdk_43_method_23_code 6 (some .int) ({ frames := 0, cells := 0, slots := 0, locals := 0 } : Room) #[(.ref a1), (.int (69 : Int32)), (.int (0 : Int32)), (.int (4 : Int32))] h0 (fun v h L => ∃ (r : Int32), v = some (.int r) ∧ Fr n0 L ∧ Keep h0 h [] ∧ (r < 0 ↔ ¬ (x0.toInt8.toInt32 = (69 : Int32) ∨ x1.toInt8.toInt32 = (69 : Int32) ∨ x2.toInt8.toInt32 = (69 : Int32) ∨ x3.toInt8.toInt32 = (69 : Int32)))) := by
  refine Con.of (plainFor_of_name pn_2) ?_
  intro p e s m below meth c s₁ hx hby hml hZ hown hnm hret hlk X0 e0
  have N0 := Fr.nil n0
  refine go_cast (g' := mkF m 0 #[.val (.ref a1), .val (.int (69 : Int32)), .val (.int (0 : Int32)), .val (.int (4 : Int32)), .unset, .unset] []) ?_ (by first | (simp [entryFrame, mkF, argsToLocals, Value.category]; done) | rfl)
  refine go_iload_n (q := 1) X0 hx (hb hby d17_0) (v := (69 : Int32)) rfl rfl ?_
  refine go_i2b (q := 2) X0 hx (hb hby d17_1) (v := (69 : Int32)) (by decide) rfl ?_
  refine go_istore (q := 4) X0 hx (hb hby d17_2) (l' := #[.val (.ref a1), .val (.int (69 : Int32)), .val (.int (0 : Int32)), .val (.int (4 : Int32)), .val (.int (69 : Int32)), .unset]) rfl rfl ?_
  refine go_iload_n (q := 5) X0 hx (hb hby d17_4) (v := (0 : Int32)) rfl rfl ?_
  refine go_istore (q := 7) X0 hx (hb hby d17_5) (l' := #[.val (.ref a1), .val (.int (69 : Int32)), .val (.int (0 : Int32)), .val (.int (4 : Int32)), .val (.int (69 : Int32)), .val (.int (0 : Int32))]) rfl rfl ?_
  refine go_iload (q := 9) X0 hx (hb hby d17_7) (v := (0 : Int32)) rfl rfl ?_
  refine go_iload_n (q := 10) X0 hx (hb hby d17_9) (v := (4 : Int32)) rfl rfl ?_
  refine go_icmpN (q := 13) X0 hx (hb hby d17_10) (XT.ii_ge_f (by decide)) rfl ?_
  refine go_aload_n (q := 14) X0 hx (hb hby d17_13) (v := (.ref a1)) rfl rfl rfl ?_
  refine go_iload (q := 16) X0 hx (hb hby d17_14) (v := (0 : Int32)) rfl rfl ?_
  refine go_baload (q := 17) (j := (0 : Int32)) (v := (.int x0.toInt8.toInt32)) X0 hx hZ e0 A_0 (by decide) rfl (hb hby d17_16) rfl ?_
  refine go_iload (q := 19) X0 hx (hb hby d17_17) (v := (69 : Int32)) rfl rfl ?_
  by_cases c1 : x0.toInt8.toInt32 = (69 : Int32)
  · refine go_icmpN (q := 22) X0 hx (hb hby d17_19) (XT.ii_ne_f c1) rfl ?_
    refine go_iload (q := 24) X0 hx (hb hby d17_22) (v := (0 : Int32)) rfl rfl ?_
    refine go_retI X0 hx hret hlk e0 (hb hby d17_24) (by simp) rfl (by decide) (by decide) ?_
    exact ⟨(0 : Int32), rfl, N0, (Keep.refl h0 []), (by simp [c1])⟩
  · refine go_icmpY (q := 25) X0 hx (hb hby d17_19) (XT.ii_ne_t c1) (by decide) (by decide) ?_
    refine go_iinc (q := 28) X0 hx (hb hby d17_25) (x := (0 : Int32)) (v := (1 : Int32)) rfl (by first | rfl | decide) (l' := #[.val (.ref a1), .val (.int (69 : Int32)), .val (.int (0 : Int32)), .val (.int (4 : Int32)), .val (.int (69 : Int32)), .val (.int (1 : Int32))]) rfl rfl ?_
    refine go_goto (q := 7) X0 hx (hb hby d17_28) (by decide) (by decide) ?_
    refine go_iload (q := 9) X0 hx (hb hby d17_7) (v := (1 : Int32)) rfl rfl ?_
    refine go_iload_n (q := 10) X0 hx (hb hby d17_9) (v := (4 : Int32)) rfl rfl ?_
    refine go_icmpN (q := 13) X0 hx (hb hby d17_10) (XT.ii_ge_f (by decide)) rfl ?_
    refine go_aload_n (q := 14) X0 hx (hb hby d17_13) (v := (.ref a1)) rfl rfl rfl ?_
    refine go_iload (q := 16) X0 hx (hb hby d17_14) (v := (1 : Int32)) rfl rfl ?_
    refine go_baload (q := 17) (j := (1 : Int32)) (v := (.int x1.toInt8.toInt32)) X0 hx hZ e0 A_0 (by decide) rfl (hb hby d17_16) rfl ?_
    refine go_iload (q := 19) X0 hx (hb hby d17_17) (v := (69 : Int32)) rfl rfl ?_
    by_cases c2 : x1.toInt8.toInt32 = (69 : Int32)
    · refine go_icmpN (q := 22) X0 hx (hb hby d17_19) (XT.ii_ne_f c2) rfl ?_
      refine go_iload (q := 24) X0 hx (hb hby d17_22) (v := (1 : Int32)) rfl rfl ?_
      refine go_retI X0 hx hret hlk e0 (hb hby d17_24) (by simp) rfl (by decide) (by decide) ?_
      exact ⟨(1 : Int32), rfl, N0, (Keep.refl h0 []), (by simp [c1, c2])⟩
    · refine go_icmpY (q := 25) X0 hx (hb hby d17_19) (XT.ii_ne_t c2) (by decide) (by decide) ?_
      refine go_iinc (q := 28) X0 hx (hb hby d17_25) (x := (1 : Int32)) (v := (2 : Int32)) rfl (by first | rfl | decide) (l' := #[.val (.ref a1), .val (.int (69 : Int32)), .val (.int (0 : Int32)), .val (.int (4 : Int32)), .val (.int (69 : Int32)), .val (.int (2 : Int32))]) rfl rfl ?_
      refine go_goto (q := 7) X0 hx (hb hby d17_28) (by decide) (by decide) ?_
      refine go_iload (q := 9) X0 hx (hb hby d17_7) (v := (2 : Int32)) rfl rfl ?_
      refine go_iload_n (q := 10) X0 hx (hb hby d17_9) (v := (4 : Int32)) rfl rfl ?_
      refine go_icmpN (q := 13) X0 hx (hb hby d17_10) (XT.ii_ge_f (by decide)) rfl ?_
      refine go_aload_n (q := 14) X0 hx (hb hby d17_13) (v := (.ref a1)) rfl rfl rfl ?_
      refine go_iload (q := 16) X0 hx (hb hby d17_14) (v := (2 : Int32)) rfl rfl ?_
      refine go_baload (q := 17) (j := (2 : Int32)) (v := (.int x2.toInt8.toInt32)) X0 hx hZ e0 A_0 (by decide) rfl (hb hby d17_16) rfl ?_
      refine go_iload (q := 19) X0 hx (hb hby d17_17) (v := (69 : Int32)) rfl rfl ?_
      by_cases c3 : x2.toInt8.toInt32 = (69 : Int32)
      · refine go_icmpN (q := 22) X0 hx (hb hby d17_19) (XT.ii_ne_f c3) rfl ?_
        refine go_iload (q := 24) X0 hx (hb hby d17_22) (v := (2 : Int32)) rfl rfl ?_
        refine go_retI X0 hx hret hlk e0 (hb hby d17_24) (by simp) rfl (by decide) (by decide) ?_
        exact ⟨(2 : Int32), rfl, N0, (Keep.refl h0 []), (by simp [c1, c2, c3])⟩
      · refine go_icmpY (q := 25) X0 hx (hb hby d17_19) (XT.ii_ne_t c3) (by decide) (by decide) ?_
        refine go_iinc (q := 28) X0 hx (hb hby d17_25) (x := (2 : Int32)) (v := (3 : Int32)) rfl (by first | rfl | decide) (l' := #[.val (.ref a1), .val (.int (69 : Int32)), .val (.int (0 : Int32)), .val (.int (4 : Int32)), .val (.int (69 : Int32)), .val (.int (3 : Int32))]) rfl rfl ?_
        refine go_goto (q := 7) X0 hx (hb hby d17_28) (by decide) (by decide) ?_
        refine go_iload (q := 9) X0 hx (hb hby d17_7) (v := (3 : Int32)) rfl rfl ?_
        refine go_iload_n (q := 10) X0 hx (hb hby d17_9) (v := (4 : Int32)) rfl rfl ?_
        refine go_icmpN (q := 13) X0 hx (hb hby d17_10) (XT.ii_ge_f (by decide)) rfl ?_
        refine go_aload_n (q := 14) X0 hx (hb hby d17_13) (v := (.ref a1)) rfl rfl rfl ?_
        refine go_iload (q := 16) X0 hx (hb hby d17_14) (v := (3 : Int32)) rfl rfl ?_
        refine go_baload (q := 17) (j := (3 : Int32)) (v := (.int x3.toInt8.toInt32)) X0 hx hZ e0 A_0 (by decide) rfl (hb hby d17_16) rfl ?_
        refine go_iload (q := 19) X0 hx (hb hby d17_17) (v := (69 : Int32)) rfl rfl ?_
        by_cases c4 : x3.toInt8.toInt32 = (69 : Int32)
        · refine go_icmpN (q := 22) X0 hx (hb hby d17_19) (XT.ii_ne_f c4) rfl ?_
          refine go_iload (q := 24) X0 hx (hb hby d17_22) (v := (3 : Int32)) rfl rfl ?_
          refine go_retI X0 hx hret hlk e0 (hb hby d17_24) (by simp) rfl (by decide) (by decide) ?_
          exact ⟨(3 : Int32), rfl, N0, (Keep.refl h0 []), (by simp [c1, c2, c3, c4])⟩
        · refine go_icmpY (q := 25) X0 hx (hb hby d17_19) (XT.ii_ne_t c4) (by decide) (by decide) ?_
          refine go_iinc (q := 28) X0 hx (hb hby d17_25) (x := (3 : Int32)) (v := (4 : Int32)) rfl (by first | rfl | decide) (l' := #[.val (.ref a1), .val (.int (69 : Int32)), .val (.int (0 : Int32)), .val (.int (4 : Int32)), .val (.int (69 : Int32)), .val (.int (4 : Int32))]) rfl rfl ?_
          refine go_goto (q := 7) X0 hx (hb hby d17_28) (by decide) (by decide) ?_
          refine go_iload (q := 9) X0 hx (hb hby d17_7) (v := (4 : Int32)) rfl rfl ?_
          refine go_iload_n (q := 10) X0 hx (hb hby d17_9) (v := (4 : Int32)) rfl rfl ?_
          refine go_icmpY (q := 31) X0 hx (hb hby d17_10) (XT.ii_ge_t (by decide)) (by decide) (by decide) ?_
          refine go_iconst (q := 32) X0 hx (hb hby d17_31) (v := (-1 : Int32)) (by decide) rfl ?_
          refine go_retI X0 hx hret hlk e0 (hb hby d17_32) (by simp) rfl (by decide) (by decide) ?_
          exact ⟨(-1 : Int32), rfl, N0, (Keep.refl h0 []), (by simp [c1, c2, c3, c4])⟩
set_option maxRecDepth 65536 in
set_option maxHeartbeats 40000000 in
theorem b10_4 (l : Launch) (Z : State) (a0 : Array Value) (hw : ∀ d ∈ tables_1, d.before a0 Z = true) (a1 : Addr) (kb : ClassId) (x0 : Int32) (x1 : Int32) (x2 : Int32) (x3 : Int32) (h0 : Heap) (n0 : Nat) (O0 : Old Z n0 h0) (A_0 : Arv Z h0 a1 kb .byte (4 : Int32) [(.int x0.toInt8.toInt32), (.int x1.toInt8.toInt32), (.int x2.toInt8.toInt32), (.int x3.toInt8.toInt32)] (.int (0 : Int32))) :
    Con l Z (⟨"java/lang/StringLatin1", "indexOf", "([BIII)I"⟩ : MethodName) jdk_43_method_22_code 4 (some .int) ({ frames := 1, cells := 0, slots := 0, locals := 17 } : Room) #[(.ref a1), (.int (69 : Int32)), (.int (0 : Int32)), (.int (4 : Int32))] h0 (fun v h L => ∃ (r : Int32), v = some (.int r) ∧ Fr n0 L ∧ Keep h0 h [] ∧ (r < 0 ↔ ¬ (x0.toInt8.toInt32 = (69 : Int32) ∨ x1.toInt8.toInt32 = (69 : Int32) ∨ x2.toInt8.toInt32 = (69 : Int32) ∨ x3.toInt8.toInt32 = (69 : Int32)))) := by
  refine Con.of (plainFor_of_name pn_2) ?_
  intro p e s m below meth c s₁ hx hby hml hZ hown hnm hret hlk X0 e0
  have N0 := Fr.nil n0
  refine go_cast (g' := mkF m 0 #[.val (.ref a1), .val (.int (69 : Int32)), .val (.int (0 : Int32)), .val (.int (4 : Int32))] []) ?_ (by first | (simp [entryFrame, mkF, argsToLocals, Value.category]; done) | rfl)
  refine go_iload_n (q := 1) X0 hx (hb hby d10_0) (v := (69 : Int32)) rfl rfl ?_
  refine go_static (q := 4) X0 hx hZ hown (y := (⟨"java/lang/StringLatin1", "canEncode", "(I)Z"⟩ : MethodName)) (w57 hw) (w58 hw) (w55 hw) (w59 hw) (by decide) e0 (b11 l Z a0 hw  h0 n0 O0 ) (argsL := [(.int (69 : Int32))]) (rest := []) rfl (lenOf pd_5 rfl) rfl (by rw [hml]; rfl) (W := 0) (Nat.le_of_eq rfl) (hb hby d10_1) (by decide) (by decide) (by decide) (by decide) rfl ?_
  rintro T1 h1 _ L1 X1 e1 ⟨rfl, M1, K1⟩
  have N1 := Fr.app N0 M1
  refine go_ifY (q := 9) X1 hx (hb hby d10_4) (XT.i0_ne_t (by decide)) (by decide) (by decide) ?_
  refine go_iload_n (q := 10) X1 hx (hb hby d10_9) (v := (0 : Int32)) rfl rfl ?_
  refine go_iconst (q := 11) X1 hx (hb hby d10_10) (v := (0 : Int32)) (by decide) rfl ?_
  have O2 : Old Z n0 h1 := (O0.keep K1 all0)
  refine go_static (q := 14) X1 hx hZ hown (y := (⟨"java/lang/Math", "max", "(II)I"⟩ : MethodName)) (w60 hw) (w61 hw) (w62 hw) (w63 hw) (by decide) e1 (b12 l Z a0 hw  h1 n0 O2 ) (argsL := [(.int (0 : Int32)), (.int (0 : Int32))]) (rest := []) rfl (lenOf pd_6 rfl) rfl (by rw [hml]; rfl) (W := 0) (Nat.le_of_eq rfl) (hb hby d10_11) (by decide) (by decide) (by decide) (by decide) rfl ?_
  rintro T3 h3 _ L3 X3 e3 ⟨rfl, M3, K3⟩
  have N3 := Fr.app N1 M3
  refine go_istore_n (q := 15) X3 hx (hb hby d10_14) (l' := #[.val (.ref a1), .val (.int (69 : Int32)), .val (.int (0 : Int32)), .val (.int (4 : Int32))]) rfl rfl ?_
  refine go_iload_n (q := 16) X3 hx (hb hby d10_15) (v := (4 : Int32)) rfl rfl ?_
  refine go_aload_n (q := 17) X3 hx (hb hby d10_16) (v := (.ref a1)) rfl rfl rfl ?_
  have f4 : Arv Z h3 a1 kb .byte (4 : Int32) [(.int x0.toInt8.toInt32), (.int x1.toInt8.toInt32), (.int x2.toInt8.toInt32), (.int x3.toInt8.toInt32)] (.int (0 : Int32)) := ((A_0.keep K1 nin0).keep K3 nin0)
  refine go_alen (q := 18) X3 hx hZ e3 f4 (hb hby d10_17) rfl ?_
  have O5 : Old Z n0 h3 := (O2.keep K3 all0)
  refine go_static (q := 21) X3 hx hZ hown (y := (⟨"java/lang/Math", "min", "(II)I"⟩ : MethodName)) (w64 hw) (w65 hw) (w62 hw) (w66 hw) (by decide) e3 (b13_4 l Z a0 hw  h3 n0 O5 ) (argsL := [(.int (4 : Int32)), (.int (4 : Int32))]) (rest := []) rfl (lenOf pd_6 rfl) rfl (by rw [hml]; rfl) (W := 0) (Nat.le_of_eq rfl) (hb hby d10_18) (by decide) (by decide) (by decide) (by decide) rfl ?_
  rintro T6 h6 _ L6 X6 e6 ⟨rfl, M6, K6⟩
  have N6 := Fr.app N3 M6
  refine go_istore_n (q := 22) X6 hx (hb hby d10_21) (l' := #[.val (.ref a1), .val (.int (69 : Int32)), .val (.int (0 : Int32)), .val (.int (4 : Int32))]) rfl rfl ?_
  refine go_iload_n (q := 23) X6 hx (hb hby d10_22) (v := (0 : Int32)) rfl rfl ?_
  refine go_iload_n (q := 24) X6 hx (hb hby d10_23) (v := (4 : Int32)) rfl rfl ?_
  refine go_icmpY (q := 29) X6 hx (hb hby d10_24) (XT.ii_lt_t (by decide)) (by decide) (by decide) ?_
  refine go_aload_n (q := 30) X6 hx (hb hby d10_29) (v := (.ref a1)) rfl rfl rfl ?_
  refine go_iload_n (q := 31) X6 hx (hb hby d10_30) (v := (69 : Int32)) rfl rfl ?_
  refine go_iload_n (q := 32) X6 hx (hb hby d10_31) (v := (0 : Int32)) rfl rfl ?_
  refine go_iload_n (q := 33) X6 hx (hb hby d10_32) (v := (4 : Int32)) rfl rfl ?_
  have f7 : Arv Z h6 a1 kb .byte (4 : Int32) [(.int x0.toInt8.toInt32), (.int x1.toInt8.toInt32), (.int x2.toInt8.toInt32), (.int x3.toInt8.toInt32)] (.int (0 : Int32)) := (f4.keep K6 nin0)
  have O8 : Old Z n0 h6 := (O5.keep K6 all0)
  refine go_static (q := 36) X6 hx hZ hown (y := (⟨"java/lang/StringLatin1", "indexOfChar", "([BIII)I"⟩ : MethodName)) (w77 hw) (w78 hw) (w55 hw) (w79 hw) (by decide) e6 (b17_3 l Z a0 hw a1 kb x0 x1 x2 x3 h6 n0 O8 f7) (argsL := [(.ref a1), (.int (69 : Int32)), (.int (0 : Int32)), (.int (4 : Int32))]) (rest := []) rfl (lenOf pd_9 rfl) rfl (by rw [hml]; rfl) (W := 0) (Nat.le_of_eq rfl) (hb hby d10_33) (by decide) (by decide) (by decide) (by decide) rfl ?_
  rintro T9 h9 _ L9 X9 e9 ⟨r_9, rfl, M9, K9, p9_0⟩
  have N9 := Fr.app N6 M9
  refine go_retI X9 hx hret hlk e9 (hb hby d10_36) (by simp) rfl (by decide) (by decide) ?_
  exact ⟨r_9, rfl, N9, (((((Keep.refl h0 []).trans K1 all0).trans K3 all0).trans K6 all0).trans K9 all0), p9_0⟩
set_option maxRecDepth 65536 in
set_option maxHeartbeats 40000000 in
theorem b6_4 (l : Launch) (Z : State) (a0 : Array Value) (hw : ∀ d ∈ tables_1, d.before a0 Z = true) (a1 : Addr) (a2 : Addr) (kb : ClassId) (zc : Int32) (x0 : Int32) (x1 : Int32) (x2 : Int32) (x3 : Int32) (h0 : Heap) (n0 : Nat) (O0 : Old Z n0 h0) (E_0 : Exa Z h0 a1 "java/lang/String") (F_1 : Fld Z h0 a1 "java/lang/String" "value" "[B" (.ref a2)) (F_2 : Fld Z h0 a1 "java/lang/String" "coder" "B" (.int (0 : Int32))) (A_3 : Arv Z h0 a2 kb .byte (4 : Int32) [(.int x0.toInt8.toInt32), (.int x1.toInt8.toInt32), (.int x2.toInt8.toInt32), (.int x3.toInt8.toInt32)] (.int (0 : Int32))) (S_4 : Sta Z Z.heap "java/lang/String" "COMPACT_STRINGS" "Z" (.int zc)) (r_5 : (¬ zc = 0)) :
    Con l Z (⟨"java/lang/String", "indexOf", "(II)I"⟩ : MethodName) jdk_42_method_80_code 3 (some .int) ({ frames := 2, cells := 0, slots := 0, locals := 32 } : Room) #[(.ref a1), (.int (69 : Int32)), (.int (0 : Int32))] h0 (fun v h L => ∃ (r : Int32), v = some (.int r) ∧ Fr n0 L ∧ Keep h0 h [] ∧ (r < 0 ↔ ¬ (x0.toInt8.toInt32 = (69 : Int32) ∨ x1.toInt8.toInt32 = (69 : Int32) ∨ x2.toInt8.toInt32 = (69 : Int32) ∨ x3.toInt8.toInt32 = (69 : Int32)))) := by
  refine Con.of (plainFor_of_name pn_1) ?_
  intro p e s m below meth c s₁ hx hby hml hZ hown hnm hret hlk X0 e0
  have N0 := Fr.nil n0
  refine go_cast (g' := mkF m 0 #[.val (.ref a1), .val (.int (69 : Int32)), .val (.int (0 : Int32))] []) ?_ (by first | (simp [entryFrame, mkF, argsToLocals, Value.category]; done) | rfl)
  refine go_aload_n (q := 1) X0 hx (hb hby d6_0) (v := (.ref a1)) rfl rfl rfl ?_
  refine go_virtual (q := 4) X0 hx hZ hown (y := (⟨"java/lang/String", "isLatin1", "()Z"⟩ : MethodName)) (z := (⟨"java/lang/String", "isLatin1", "()Z"⟩ : MethodName)) (a := a1) (w37 hw) (w38 hw) (notFace_of_selects (args := #[]) (mvT hZ (w40 hw))) (w40 hw) (w39 hw) (w4 hw) (w41 hw) (by decide) e0 E_0 (b7 l Z a0 hw a1 zc h0 n0 O0 F_2 S_4 r_5) (argsL := []) (rest := []) rfl (lenOf pd_7 rfl) rfl (by rw [hml]; rfl) (W := 0) (Nat.le_of_eq rfl) (hb hby d6_1) (by decide) (by decide) (by decide) (by decide) rfl ?_
  rintro T1 h1 _ L1 X1 e1 ⟨rfl, M1, K1⟩
  have N1 := Fr.app N0 M1
  refine go_ifN (q := 7) X1 hx (hb hby d6_4) (XT.i0_eq_f (by decide)) rfl ?_
  refine go_aload_n (q := 8) X1 hx (hb hby d6_7) (v := (.ref a1)) rfl rfl rfl ?_
  have f2 : Fld Z h1 a1 "java/lang/String" "value" "[B" (.ref a2) := (F_1.keep K1 nin0)
  refine go_getF (q := 11) (host := "") X1 hx hZ hown (Or.inl (w21 hw)) Via.refl e1 f2 (hb hby d6_8) rfl ?_
  intro T3 X3 e3
  refine go_iload_n (q := 12) X3 hx (hb hby d6_11) (v := (69 : Int32)) rfl rfl ?_
  refine go_iload_n (q := 13) X3 hx (hb hby d6_12) (v := (0 : Int32)) rfl rfl ?_
  refine go_aload_n (q := 14) X3 hx (hb hby d6_13) (v := (.ref a1)) rfl rfl rfl ?_
  have f4 : Exa Z h1 a1 "java/lang/String" := (E_0.keep K1)
  have f5 : Fld Z h1 a1 "java/lang/String" "coder" "B" (.int (0 : Int32)) := (F_2.keep K1 nin0)
  have f6 : Arv Z h1 a2 kb .byte (4 : Int32) [(.int x0.toInt8.toInt32), (.int x1.toInt8.toInt32), (.int x2.toInt8.toInt32), (.int x3.toInt8.toInt32)] (.int (0 : Int32)) := (A_3.keep K1 nin0)
  have O7 : Old Z n0 h1 := (O0.keep K1 all0)
  refine go_virtual (q := 17) X3 hx hZ hown (y := (⟨"java/lang/String", "length", "()I"⟩ : MethodName)) (z := (⟨"java/lang/String", "length", "()I"⟩ : MethodName)) (a := a1) (w43 hw) (w44 hw) (notFace_of_selects (args := #[]) (mvT hZ (w46 hw))) (w46 hw) (w45 hw) (w4 hw) (w47 hw) (by decide) e3 f4 (b8 l Z a0 hw a1 a2 kb (4 : Int32) [(.int x0.toInt8.toInt32), (.int x1.toInt8.toInt32), (.int x2.toInt8.toInt32), (.int x3.toInt8.toInt32)] (.int (0 : Int32)) zc h1 n0 O7 f4 f2 f5 f6 S_4 r_5) (argsL := []) (rest := [(.int (0 : Int32)), (.int (69 : Int32)), (.ref a2)]) rfl (lenOf pd_8 rfl) rfl (by rw [hml]; rfl) (W := 3) (Nat.le_of_eq rfl) (hb hby d6_14) (by decide) (by decide) (by decide) (by decide) rfl ?_
  rintro T8 h8 _ L8 X8 e8 ⟨rfl, M8, K8⟩
  have N8 := Fr.app N1 M8
  have f9 : Arv Z h8 a2 kb .byte (4 : Int32) [(.int x0.toInt8.toInt32), (.int x1.toInt8.toInt32), (.int x2.toInt8.toInt32), (.int x3.toInt8.toInt32)] (.int (0 : Int32)) := (f6.keep K8 nin0)
  have O10 : Old Z n0 h8 := (O7.keep K8 all0)
  refine go_static (q := 20) X8 hx hZ hown (y := (⟨"java/lang/StringLatin1", "indexOf", "([BIII)I"⟩ : MethodName)) (w53 hw) (w54 hw) (w55 hw) (w56 hw) (by decide) e8 (b10_4 l Z a0 hw a2 kb x0 x1 x2 x3 h8 n0 O10 f9) (argsL := [(.ref a2), (.int (69 : Int32)), (.int (0 : Int32)), (.int (4 : Int32))]) (rest := []) rfl (lenOf pd_9 rfl) rfl (by rw [hml]; rfl) (W := 0) (Nat.le_of_eq rfl) (hb hby d6_17) (by decide) (by decide) (by decide) (by decide) rfl ?_
  have f12 : Fld Z h8 a1 "java/lang/String" "coder" "B" (.int (0 : Int32)) := (f5.keep K8 nin0)
  rintro T11 h11 _ L11 X11 e11 ⟨r_11, rfl, M11, K11, p11_0⟩
  have N11 := Fr.app N8 M11
  refine go_goto (q := 36) X11 hx (hb hby d6_20) (by decide) (by decide) ?_
  refine go_retI X11 hx hret hlk e11 (hb hby d6_36) (by simp) rfl (by decide) (by decide) ?_
  exact ⟨r_11, rfl, N11, ((((Keep.refl h0 []).trans K1 all0).trans K8 all0).trans K11 all0), p11_0⟩
set_option maxRecDepth 65536 in
set_option maxHeartbeats 40000000 in
theorem b5_4 (l : Launch) (Z : State) (a0 : Array Value) (hw : ∀ d ∈ tables_1, d.before a0 Z = true) (a1 : Addr) (a2 : Addr) (kb : ClassId) (zc : Int32) (x0 : Int32) (x1 : Int32) (x2 : Int32) (x3 : Int32) (h0 : Heap) (n0 : Nat) (O0 : Old Z n0 h0) (E_0 : Exa Z h0 a1 "java/lang/String") (F_1 : Fld Z h0 a1 "java/lang/String" "value" "[B" (.ref a2)) (F_2 : Fld Z h0 a1 "java/lang/String" "coder" "B" (.int (0 : Int32))) (A_3 : Arv Z h0 a2 kb .byte (4 : Int32) [(.int x0.toInt8.toInt32), (.int x1.toInt8.toInt32), (.int x2.toInt8.toInt32), (.int x3.toInt8.toInt32)] (.int (0 : Int32))) (S_4 : Sta Z Z.heap "java/lang/String" "COMPACT_STRINGS" "Z" (.int zc)) (r_5 : (¬ zc = 0)) :
    Con l Z (⟨"java/lang/String", "indexOf", "(I)I"⟩ : MethodName) jdk_42_method_79_code 2 (some .int) ({ frames := 3, cells := 0, slots := 0, locals := 46 } : Room) #[(.ref a1), (.int (69 : Int32))] h0 (fun v h L => ∃ (r : Int32), v = some (.int r) ∧ Fr n0 L ∧ Keep h0 h [] ∧ (r < 0 ↔ ¬ (x0.toInt8.toInt32 = (69 : Int32) ∨ x1.toInt8.toInt32 = (69 : Int32) ∨ x2.toInt8.toInt32 = (69 : Int32) ∨ x3.toInt8.toInt32 = (69 : Int32)))) := by
  refine Con.of (plainFor_of_name pn_1) ?_
  intro p e s m below meth c s₁ hx hby hml hZ hown hnm hret hlk X0 e0
  have N0 := Fr.nil n0
  refine go_cast (g' := mkF m 0 #[.val (.ref a1), .val (.int (69 : Int32))] []) ?_ (by first | (simp [entryFrame, mkF, argsToLocals, Value.category]; done) | rfl)
  refine go_aload_n (q := 1) X0 hx (hb hby d5_0) (v := (.ref a1)) rfl rfl rfl ?_
  refine go_iload_n (q := 2) X0 hx (hb hby d5_1) (v := (69 : Int32)) rfl rfl ?_
  refine go_iconst (q := 3) X0 hx (hb hby d5_2) (v := (0 : Int32)) (by decide) rfl ?_
  refine go_virtual (q := 6) X0 hx hZ hown (y := (⟨"java/lang/String", "indexOf", "(II)I"⟩ : MethodName)) (z := (⟨"java/lang/String", "indexOf", "(II)I"⟩ : MethodName)) (a := a1) (w32 hw) (w33 hw) (notFace_of_selects (args := #[]) (mvT hZ (w35 hw))) (w35 hw) (w34 hw) (w4 hw) (w36 hw) (by decide) e0 E_0 (b6_4 l Z a0 hw a1 a2 kb zc x0 x1 x2 x3 h0 n0 O0 E_0 F_1 F_2 A_3 S_4 r_5) (argsL := [(.int (69 : Int32)), (.int (0 : Int32))]) (rest := []) rfl (lenOf pd_6 rfl) rfl (by rw [hml]; rfl) (W := 0) (Nat.le_of_eq rfl) (hb hby d5_3) (by decide) (by decide) (by decide) (by decide) rfl ?_
  rintro T1 h1 _ L1 X1 e1 ⟨r_1, rfl, M1, K1, p1_0⟩
  have N1 := Fr.app N0 M1
  refine go_retI X1 hx hret hlk e1 (hb hby d5_6) (by simp) rfl (by decide) (by decide) ?_
  exact ⟨r_1, rfl, N1, ((Keep.refl h0 []).trans K1 all0), p1_0⟩
set_option maxRecDepth 65536 in
set_option maxHeartbeats 40000000 in
theorem b4_4 (l : Launch) (Z : State) (a0 : Array Value) (hw : ∀ d ∈ tables_1, d.before a0 Z = true) (a1 : Addr) (a2 : Addr) (kb : ClassId) (zc : Int32) (x0 : Int32) (x1 : Int32) (x2 : Int32) (x3 : Int32) (h0 : Heap) (n0 : Nat) (O0 : Old Z n0 h0) (E_0 : Exa Z h0 a1 "java/lang/String") (F_1 : Fld Z h0 a1 "java/lang/String" "value" "[B" (.ref a2)) (F_2 : Fld Z h0 a1 "java/lang/String" "coder" "B" (.int (0 : Int32))) (A_3 : Arv Z h0 a2 kb .byte (4 : Int32) [(.int x0.toInt8.toInt32), (.int x1.toInt8.toInt32), (.int x2.toInt8.toInt32), (.int x3.toInt8.toInt32)] (.int (0 : Int32))) (S_4 : Sta Z Z.heap "java/lang/String" "COMPACT_STRINGS" "Z" (.int zc)) (r_5 : (¬ zc = 0)) :
    Con l Z (⟨"com/example/harborspread/harborspread/Decimals", "isTooLong", "(Ljava/lang/String;)Z"⟩ : MethodName) prog_21_method_3_code 1 (some .boolean) ({ frames := 4, cells := 0, slots := 0, locals := 59 } : Room) #[(.ref a1)] h0 (fun v h L => ∃ (r : Int32), v = some (.int r) ∧ Fr n0 L ∧ Keep h0 h [] ∧ ((r = 1 ∧ (x0.toInt8.toInt32 = (69 : Int32) ∨ x1.toInt8.toInt32 = (69 : Int32) ∨ x2.toInt8.toInt32 = (69 : Int32) ∨ x3.toInt8.toInt32 = (69 : Int32))) ∨ (r = 0 ∧ ¬ (x0.toInt8.toInt32 = (69 : Int32) ∨ x1.toInt8.toInt32 = (69 : Int32) ∨ x2.toInt8.toInt32 = (69 : Int32) ∨ x3.toInt8.toInt32 = (69 : Int32))))) := by
  refine Con.of (plainFor_of_name pn_3) ?_
  intro p e s m below meth c s₁ hx hby hml hZ hown hnm hret hlk X0 e0
  have N0 := Fr.nil n0
  refine go_cast (g' := mkF m 0 #[.val (.ref a1)] []) ?_ (by first | (simp [entryFrame, mkF, argsToLocals, Value.category]; done) | rfl)
  refine go_aload_n (q := 1) X0 hx (hb hby d4_0) (v := (.ref a1)) rfl rfl rfl ?_
  refine go_bipush (q := 3) X0 hx (hb hby d4_1) (v := (69 : Int32)) (by decide) rfl ?_
  refine go_virtual (q := 6) X0 hx hZ hown (y := (⟨"java/lang/String", "indexOf", "(I)I"⟩ : MethodName)) (z := (⟨"java/lang/String", "indexOf", "(I)I"⟩ : MethodName)) (a := a1) (w27 hw) (w28 hw) (notFace_of_selects (args := #[]) (mvT hZ (w30 hw))) (w30 hw) (w29 hw) (w4 hw) (w31 hw) (by decide) e0 E_0 (b5_4 l Z a0 hw a1 a2 kb zc x0 x1 x2 x3 h0 n0 O0 E_0 F_1 F_2 A_3 S_4 r_5) (argsL := [(.int (69 : Int32))]) (rest := []) rfl (lenOf pd_10 rfl) rfl (by rw [hml]; rfl) (W := 0) (Nat.le_of_eq rfl) (hb hby d4_3) (by decide) (by decide) (by decide) (by decide) rfl ?_
  rintro T1 h1 _ L1 X1 e1 ⟨r_1, rfl, M1, K1, p1_0⟩
  have N1 := Fr.app N0 M1
  by_cases c2 : r_1 < 0
  · refine go_ifY (q := 13) X1 hx (hb hby d4_6) (XT.i0_lt_t c2) (by decide) (by decide) ?_
    refine go_iconst (q := 14) X1 hx (hb hby d4_13) (v := (0 : Int32)) (by decide) rfl ?_
    refine go_retI X1 hx hret hlk e1 (hb hby d4_14) (by simp) (by decide) (by decide) (by decide) ?_
    exact ⟨(0 : Int32), rfl, N1, ((Keep.refl h0 []).trans K1 all0), (Or.inr ⟨rfl, p1_0.mp c2⟩)⟩
  · refine go_ifN (q := 9) X1 hx (hb hby d4_6) (XT.i0_lt_f c2) rfl ?_
    refine go_iconst (q := 10) X1 hx (hb hby d4_9) (v := (1 : Int32)) (by decide) rfl ?_
    refine go_goto (q := 14) X1 hx (hb hby d4_10) (by decide) (by decide) ?_
    refine go_retI X1 hx hret hlk e1 (hb hby d4_14) (by simp) (by decide) (by decide) (by decide) ?_
    exact ⟨(1 : Int32), rfl, N1, ((Keep.refl h0 []).trans K1 all0), (Or.inl ⟨rfl, Classical.not_not.mp (fun z => c2 (p1_0.mpr z))⟩)⟩
set_option maxRecDepth 65536 in
set_option maxHeartbeats 40000000 in
theorem b0 (l : Launch) (Z : State) (a0 : Array Value) (hw : ∀ d ∈ tables_1, d.before a0 Z = true) (p0 : Int32) (p1 : Int32) (p2 : Int32) (p3 : Int32) (p4 : Int32) (zc : Int32) (h0 : Heap) (n0 : Nat) (O0 : Old Z n0 h0) (S_0 : Sta Z Z.heap "java/lang/String" "COMPACT_STRINGS" "Z" (.int zc)) (r_1 : (¬ zc = 0)) :
    ConS l Z own_EL [] x code maxLocals ret room_1 #[(.int p0), (.int p1), (.int p2), (.int p3), (.int p4)] h0 (fun v h L => v = some (.int (1 : Int32)) ∧ Fr n0 L ∧ Keep h0 h []) := by
  refine ConS.of (plainFor_of_name pn_4) ?_
  intro p e s m below meth c s₁ hx hby hml hZ hown hnm hret hlk X0 e0 hS0 H0 hsf hh0
  have hEL := own_hEL hw
  have N0 := Fr.nil n0
  refine go_cast (g' := mkF m 0 #[.val (.int p0), .val (.int p1), .val (.int p2), .val (.int p3), .val (.int p4), .unset, .unset, .unset, .unset, .unset, .unset, .unset, .unset] []) ?_ (by first | (simp [entryFrame, mkF, argsToLocals, Value.category, maxLocals]; done) | rfl)
  refine go_iload_n (q := 1) X0 hx (hb hby at_0) (v := p0) rfl rfl ?_
  refine go_ldcI (q := 3) X0 hx hZ hown (w0 hw) (hb hby at_1) rfl ?_
  refine go_iand (q := 4) X0 hx (hb hby at_3) (v := (p0 &&& (2147483647 : Int32))) rfl rfl ?_
  refine go_iconst (q := 5) X0 hx (hb hby at_4) (v := (5 : Int32)) (by decide) rfl ?_
  refine go_irem (q := 6) X0 hx (hb hby at_5) (by decide) rfl ?_
  refine go_istore (q := 8) X0 hx (hb hby at_6) (l' := #[.val (.int p0), .val (.int p1), .val (.int p2), .val (.int p3), .val (.int p4), .val (.int ((p0 &&& (2147483647 : Int32)) % (5 : Int32))), .unset, .unset, .unset, .unset, .unset, .unset, .unset]) rfl rfl ?_
  refine go_iload_n (q := 9) X0 hx (hb hby at_8) (v := p1) rfl rfl ?_
  refine go_sipush (q := 12) X0 hx (hb hby at_9) (v := (255 : Int32)) (by decide) rfl ?_
  refine go_iand (q := 13) X0 hx (hb hby at_12) (v := (p1 &&& (255 : Int32))) rfl rfl ?_
  refine go_i2c (q := 14) X0 hx (hb hby at_13) (v := (p1 &&& (255 : Int32))) (i2c_mask _) rfl ?_
  refine go_istore (q := 16) X0 hx (hb hby at_14) (l' := #[.val (.int p0), .val (.int p1), .val (.int p2), .val (.int p3), .val (.int p4), .val (.int ((p0 &&& (2147483647 : Int32)) % (5 : Int32))), .val (.int (p1 &&& (255 : Int32))), .unset, .unset, .unset, .unset, .unset, .unset]) rfl rfl ?_
  refine go_iload_n (q := 17) X0 hx (hb hby at_16) (v := p2) rfl rfl ?_
  refine go_sipush (q := 20) X0 hx (hb hby at_17) (v := (255 : Int32)) (by decide) rfl ?_
  refine go_iand (q := 21) X0 hx (hb hby at_20) (v := (p2 &&& (255 : Int32))) rfl rfl ?_
  refine go_i2c (q := 22) X0 hx (hb hby at_21) (v := (p2 &&& (255 : Int32))) (i2c_mask _) rfl ?_
  refine go_istore (q := 24) X0 hx (hb hby at_22) (l' := #[.val (.int p0), .val (.int p1), .val (.int p2), .val (.int p3), .val (.int p4), .val (.int ((p0 &&& (2147483647 : Int32)) % (5 : Int32))), .val (.int (p1 &&& (255 : Int32))), .val (.int (p2 &&& (255 : Int32))), .unset, .unset, .unset, .unset, .unset]) rfl rfl ?_
  refine go_iload_n (q := 25) X0 hx (hb hby at_24) (v := p3) rfl rfl ?_
  refine go_sipush (q := 28) X0 hx (hb hby at_25) (v := (255 : Int32)) (by decide) rfl ?_
  refine go_iand (q := 29) X0 hx (hb hby at_28) (v := (p3 &&& (255 : Int32))) rfl rfl ?_
  refine go_i2c (q := 30) X0 hx (hb hby at_29) (v := (p3 &&& (255 : Int32))) (i2c_mask _) rfl ?_
  refine go_istore (q := 32) X0 hx (hb hby at_30) (l' := #[.val (.int p0), .val (.int p1), .val (.int p2), .val (.int p3), .val (.int p4), .val (.int ((p0 &&& (2147483647 : Int32)) % (5 : Int32))), .val (.int (p1 &&& (255 : Int32))), .val (.int (p2 &&& (255 : Int32))), .val (.int (p3 &&& (255 : Int32))), .unset, .unset, .unset, .unset]) rfl rfl ?_
  refine go_iload (q := 34) X0 hx (hb hby at_32) (v := p4) rfl rfl ?_
  refine go_sipush (q := 37) X0 hx (hb hby at_34) (v := (255 : Int32)) (by decide) rfl ?_
  refine go_iand (q := 38) X0 hx (hb hby at_37) (v := (p4 &&& (255 : Int32))) rfl rfl ?_
  refine go_i2c (q := 39) X0 hx (hb hby at_38) (v := (p4 &&& (255 : Int32))) (i2c_mask _) rfl ?_
  refine go_istore (q := 41) X0 hx (hb hby at_39) (l' := #[.val (.int p0), .val (.int p1), .val (.int p2), .val (.int p3), .val (.int p4), .val (.int ((p0 &&& (2147483647 : Int32)) % (5 : Int32))), .val (.int (p1 &&& (255 : Int32))), .val (.int (p2 &&& (255 : Int32))), .val (.int (p3 &&& (255 : Int32))), .val (.int (p4 &&& (255 : Int32))), .unset, .unset, .unset]) rfl rfl ?_
  refine go_iload (q := 43) X0 hx (hb hby at_41) (v := ((p0 &&& (2147483647 : Int32)) % (5 : Int32))) rfl rfl ?_
  rcases own_mod5 p0 with c9 | c9 | c9 | c9 | c9
  · rw [c9]
    refine go_ifN (q := 46) X0 hx (hb hby at_43) (XT.i0_ne_f (by decide)) rfl ?_
    refine go_iconst (q := 47) X0 hx (hb hby at_46) (v := (0 : Int32)) (by decide) rfl ?_
    refine go_newP (q := 49) (ty := .char) (cap := 0) (vs := []) (dv := (.int (0 : Int32))) X0 hx hZ rfl (w1 hw) e0 (hb hby at_47) (by decide) (by decide) (by decide) (by decide) (by decide) rfl rfl rfl ?_
    intro T1 h1 ob1 k1 g1 X1 e1 E1 A1
    have fr1 : n0 ≤ ob1 := own_ge O0 g1
    have sn1 : h0.size ≤ ob1 := g1 ▸ (Nat.le_refl _)
    have H2 := H0.trans (CHr.ext E1 H0.1)
    refine go_astore (q := 51) X1 hx (hb hby at_49) rfl (l' := #[.val (.int p0), .val (.int p1), .val (.int p2), .val (.int p3), .val (.int p4), .val (.int (0 : Int32)), .val (.int (p1 &&& (255 : Int32))), .val (.int (p2 &&& (255 : Int32))), .val (.int (p3 &&& (255 : Int32))), .val (.int (p4 &&& (255 : Int32))), .val (.ref ob1), .unset, .unset]) rfl rfl ?_
    refine go_goto (q := 151) X1 hx (hb hby at_51) (by decide) (by decide) ?_
    have O4 : Old Z n0 h1 := (O0.ext E1)
    refine go_new (q := 154) X1 hx hZ hown (w2 hw) (w3 hw) (w4 hw) e1 (hb hby at_151) (by decide) (by decide) rfl ?_
    intro T3 h3 ob3 g3 X3 e3 E3 A3 D3
    have fr3 : n0 ≤ ob3 := own_ge O4 g3
    have sn3 : h0.size ≤ ob3 := g3 ▸ (Nat.le_trans (Nat.le_refl _) E1.1)
    have ne_ob1_ob3 : ob1 ≠ ob3 := own_lt g3 A1.lt
    have H5 := H2.trans (CHr.ext E3 H2.1)
    have f6 : Fld Z h3 ob3 "java/lang/String" "value" "[B" .null := D3 (Or.inr (w17 hw)) (ty := (.array .byte)) (by decide)
    have f7 : Fld Z h3 ob3 "java/lang/String" "coder" "B" (.int (0 : Int32)) := D3 (Or.inr (w18 hw)) (ty := .byte) (by decide)
    refine go_dup (q := 155) X3 hx (hb hby at_154) rfl rfl ?_
    refine go_aload (q := 157) X3 hx (hb hby at_155) (v := (.ref ob1)) rfl rfl rfl ?_
    have f8 : Arv Z h3 ob1 k1 .char (0 : Int32) [] (.int (0 : Int32)) := (A1.ext E3)
    have O9 : Old Z n0 h3 := (O4.ext E3)
    refine go_specialS (q := 160) (sf := [ob3]) X3 hx hZ hown hS0 (Nat.zero_le _) hEL H5 (allS (P := fun x => Safe Z own_EL s.vm h3 x ∧ x < h3.size) ⟨(Safe.ext E3 H2.1 (Safe.new (Nat.le_of_eq g3.symm))), A3.lt⟩ all0) (y := (⟨"java/lang/String", "<init>", "([C)V"⟩ : MethodName)) (a := ob3) rfl (w5 hw) (w6 hw) (w4 hw) (w7 hw) (by decide) e3 (b1_4 l Z a0 hw ob3 ob1 .null (.int (0 : Int32)) k1 (.int (0 : Int32)) h3 n0 O9 A3 f6 f7 fr3 f8) (argsL := [(.ref ob1)]) (rest := [(.ref ob3)]) rfl (lenOf pd_11 rfl) rfl (by rw [hml]; rfl) (W := 1) (Nat.le_of_eq rfl) (hb hby at_157) (by decide) (by decide) (by decide) (by decide) rfl ?_
    rintro T10 h10 v10 k10 _ L10 X10 e10 hS10 hk10 hZ10 ho10 C10 H10 ⟨r_10, kb_10, rfl, M10, K10, p10_0, p10_1, p10_2, p10_3⟩
    have N10 := Fr.app N0 M10
    refine go_astore (q := 162) X10 hx (hb hby at_160) rfl (l' := #[.val (.int p0), .val (.int p1), .val (.int p2), .val (.int p3), .val (.int p4), .val (.int (0 : Int32)), .val (.int (p1 &&& (255 : Int32))), .val (.int (p2 &&& (255 : Int32))), .val (.int (p3 &&& (255 : Int32))), .val (.int (p4 &&& (255 : Int32))), .val (.ref ob1), .val (.ref ob3), .unset]) rfl rfl ?_
    refine go_iload (q := 164) X10 hx (hb hby at_162) (v := (0 : Int32)) rfl rfl ?_
    refine go_ifY (q := 174) X10 hx (hb hby at_164) (XT.i0_le_t (by decide)) (by decide) (by decide) ?_
    refine go_iload (q := 176) X10 hx (hb hby at_174) (v := (0 : Int32)) rfl rfl ?_
    refine go_iconst (q := 177) X10 hx (hb hby at_176) (v := (1 : Int32)) (by decide) rfl ?_
    refine go_icmpY (q := 187) X10 hx (hb hby at_177) (XT.ii_le_t (by decide)) (by decide) (by decide) ?_
    refine go_iload (q := 189) X10 hx (hb hby at_187) (v := (0 : Int32)) rfl rfl ?_
    refine go_iconst (q := 190) X10 hx (hb hby at_189) (v := (2 : Int32)) (by decide) rfl ?_
    refine go_icmpY (q := 200) X10 hx (hb hby at_190) (XT.ii_le_t (by decide)) (by decide) (by decide) ?_
    refine go_iload (q := 202) X10 hx (hb hby at_200) (v := (0 : Int32)) rfl rfl ?_
    refine go_iconst (q := 203) X10 hx (hb hby at_202) (v := (3 : Int32)) (by decide) rfl ?_
    refine go_icmpY (q := 217) X10 hx (hb hby at_203) (XT.ii_le_t (by decide)) (by decide) (by decide) ?_
    refine go_iconst (q := 218) X10 hx (hb hby at_217) (v := (0 : Int32)) (by decide) rfl ?_
    refine go_istore (q := 220) X10 hx (hb hby at_218) (l' := #[.val (.int p0), .val (.int p1), .val (.int p2), .val (.int p3), .val (.int p4), .val (.int (0 : Int32)), .val (.int (p1 &&& (255 : Int32))), .val (.int (p2 &&& (255 : Int32))), .val (.int (p3 &&& (255 : Int32))), .val (.int (p4 &&& (255 : Int32))), .val (.ref ob1), .val (.ref ob3), .val (.int (0 : Int32))]) rfl rfl ?_
    refine go_aload (q := 222) X10 hx (hb hby at_220) (v := (.ref ob3)) rfl rfl rfl ?_
    have O12 : Old Z n0 h10 := (O9.keep K10 (allS fr3 all0))
    refine go_static (q := 225) X10 hx hZ10 ho10 (y := (⟨"com/example/harborspread/harborspread/Decimals", "isTooLong", "(Ljava/lang/String;)Z"⟩ : MethodName)) (w23 hw) (w24 hw) (w25 hw) (w26 hw) (by decide) e10 (b4 l Z a0 hw ob3 r_10 kb_10 zc h10 n0 O12 p10_0 p10_2 p10_1 p10_3 S_0 r_1) (argsL := [(.ref ob3)]) (rest := []) rfl (lenOf pd_12 rfl) rfl (by rw [hml]; rfl) (W := 0) (Nat.le_of_eq rfl) (hb hby at_222) (by decide) (by decide) (by decide) (by decide) rfl ?_
    have f14 : Arv Z h10 ob1 k1 .char (0 : Int32) [] (.int (0 : Int32)) := (f8.keep K10 (ninS ne_ob1_ob3 nin0))
    rintro T13 h13 _ L13 X13 e13 ⟨r_13, rfl, M13, K13, p13_0⟩
    have N13 := Fr.app N10 M13
    have H15 := H10.trans (CHr.keep K13 sf0 H10.1)
    refine go_iload (q := 227) X13 hx (hb hby at_225) (v := (0 : Int32)) rfl rfl ?_
    refine go_icmpN (q := 230) X13 hx (hb hby at_227) (XT.ii_ne_f (by have z := p13_0; (try simp only [own_b69] at z); rcases z with ⟨q, q2⟩ | ⟨q, q2⟩ <;> first | exact q | (exfalso; simp [] at q2))) rfl ?_
    refine go_iconst (q := 231) X13 hx (hb hby at_230) (v := (1 : Int32)) (by decide) rfl ?_
    refine go_goto (q := 235) X13 hx (hb hby at_231) (by decide) (by decide) ?_
    refine go_retIS X13 hx hS10 (Nat.le_trans hk10 K13.1) hZ10 hEL H15 hh0 hret hlk e13 (hb hby at_235) (by simp) (by decide) (by decide) (by decide) ?_
    exact ⟨rfl, N13, (((((Keep.refl h0 []).ext E1).ext E3).trans K10 (allS (P := fun x => x ∈ [] ∨ h0.size ≤ x) (Or.inr sn3) all0)).trans K13 all0)⟩
  · rw [c9]
    refine go_ifY (q := 54) X0 hx (hb hby at_43) (XT.i0_ne_t (by decide)) (by decide) (by decide) ?_
    refine go_iload (q := 56) X0 hx (hb hby at_54) (v := (1 : Int32)) rfl rfl ?_
    refine go_iconst (q := 57) X0 hx (hb hby at_56) (v := (1 : Int32)) (by decide) rfl ?_
    refine go_icmpN (q := 60) X0 hx (hb hby at_57) (XT.ii_ne_f (by decide)) rfl ?_
    refine go_iconst (q := 61) X0 hx (hb hby at_60) (v := (1 : Int32)) (by decide) rfl ?_
    refine go_newP (q := 63) (ty := .char) (cap := 1) (vs := [(.int (0 : Int32))]) (dv := (.int (0 : Int32))) X0 hx hZ rfl (w1 hw) e0 (hb hby at_61) (by decide) (by decide) (by decide) (by decide) (by decide) rfl rfl rfl ?_
    intro T16 h16 ob16 k16 g16 X16 e16 E16 A16
    have fr16 : n0 ≤ ob16 := own_ge O0 g16
    have sn16 : h0.size ≤ ob16 := g16 ▸ (Nat.le_refl _)
    have H17 := H0.trans (CHr.ext E16 H0.1)
    refine go_dup (q := 64) X16 hx (hb hby at_63) rfl rfl ?_
    refine go_iconst (q := 65) X16 hx (hb hby at_64) (v := (0 : Int32)) (by decide) rfl ?_
    refine go_iload (q := 67) X16 hx (hb hby at_65) (v := (p1 &&& (255 : Int32))) rfl rfl ?_
    refine go_castore (q := 68) (j := (0 : Int32)) (i := 0) (vs' := [(.int (p1 &&& (255 : Int32)))]) X16 hx hZ e16 A16 (by decide) (by decide) (show (0 : Nat) < 1 by decide) (i2c_mask _) rfl (hb hby at_67) rfl ?_
    intro T18 h18 X18 e18 W18 A18
    have N18 := Fr.snoc X18 N0 fr16
    have H19 := H17.trans (CHr.wr W18 (Safe.arv hZ.alike A16 (by decide)) H17.1)
    refine go_astore (q := 70) X18 hx (hb hby at_68) rfl (l' := #[.val (.int p0), .val (.int p1), .val (.int p2), .val (.int p3), .val (.int p4), .val (.int (1 : Int32)), .val (.int (p1 &&& (255 : Int32))), .val (.int (p2 &&& (255 : Int32))), .val (.int (p3 &&& (255 : Int32))), .val (.int (p4 &&& (255 : Int32))), .val (.ref ob16), .unset, .unset]) rfl rfl ?_
    refine go_goto (q := 151) X18 hx (hb hby at_70) (by decide) (by decide) ?_
    have O21 : Old Z n0 h18 := ((O0.ext E16).wr W18 fr16)
    refine go_new (q := 154) X18 hx hZ hown (w2 hw) (w3 hw) (w4 hw) e18 (hb hby at_151) (by decide) (by decide) rfl ?_
    intro T20 h20 ob20 g20 X20 e20 E20 A20 D20
    have fr20 : n0 ≤ ob20 := own_ge O21 g20
    have sn20 : h0.size ≤ ob20 := g20 ▸ (Nat.le_trans (Nat.le_trans (Nat.le_refl _) E16.1) (Nat.le_of_eq W18.size.symm))
    have ne_ob16_ob20 : ob16 ≠ ob20 := own_lt g20 A18.lt
    have H22 := H19.trans (CHr.ext E20 H19.1)
    have f23 : Fld Z h20 ob20 "java/lang/String" "value" "[B" .null := D20 (Or.inr (w17 hw)) (ty := (.array .byte)) (by decide)
    have f24 : Fld Z h20 ob20 "java/lang/String" "coder" "B" (.int (0 : Int32)) := D20 (Or.inr (w18 hw)) (ty := .byte) (by decide)
    refine go_dup (q := 155) X20 hx (hb hby at_154) rfl rfl ?_
    refine go_aload (q := 157) X20 hx (hb hby at_155) (v := (.ref ob16)) rfl rfl rfl ?_
    have f25 : Arv Z h20 ob16 k16 .char (1 : Int32) [(.int (p1 &&& (255 : Int32)))] (.int (0 : Int32)) := (A18.ext E20)
    have O26 : Old Z n0 h20 := (O21.ext E20)
    refine go_special (q := 160) X20 hx hZ hown (y := (⟨"java/lang/String", "<init>", "([C)V"⟩ : MethodName)) (a := ob20) rfl (w5 hw) (w6 hw) (w4 hw) (w7 hw) (by decide) e20 (b1 l Z a0 hw ob20 ob16 .null (.int (0 : Int32)) k16 (.int (0 : Int32)) zc (p1 &&& (255 : Int32)) h20 n0 O26 A20 f23 f24 fr20 f25 S_0 r_1 (own_le255 _)) (argsL := [(.ref ob16)]) (rest := [(.ref ob20)]) rfl (lenOf pd_11 rfl) rfl (by rw [hml]; rfl) (W := 1) (Nat.le_of_eq rfl) (hb hby at_157) (by decide) (by decide) (by decide) (by decide) rfl ?_
    rintro T27 h27 _ L27 X27 e27 ⟨r_27, kb_27, rfl, M27, K27, p27_0, p27_1, p27_2, p27_3, p27_4⟩
    have N27 := Fr.app N18 M27
    have H28 := H22.trans (CHr.keep K27 (sfS (Safe.ext E20 H19.1 (Safe.new (Nat.le_of_eq g20.symm))) sf0) H22.1)
    have fr_r_27 : n0 ≤ r_27 := Nat.le_trans (own_le O26) p27_0
    have sn_r_27 : h0.size ≤ r_27 := Nat.le_trans (Nat.le_trans (Nat.le_trans (Nat.le_trans (Nat.le_refl _) E16.1) (Nat.le_of_eq W18.size.symm)) E20.1) p27_0
    have ne_ob16_r_27 : ob16 ≠ r_27 := own_ltg p27_0 f25.lt
    have ne_ob20_r_27 : ob20 ≠ r_27 := own_ltg p27_0 f24.lt
    refine go_astore (q := 162) X27 hx (hb hby at_160) rfl (l' := #[.val (.int p0), .val (.int p1), .val (.int p2), .val (.int p3), .val (.int p4), .val (.int (1 : Int32)), .val (.int (p1 &&& (255 : Int32))), .val (.int (p2 &&& (255 : Int32))), .val (.int (p3 &&& (255 : Int32))), .val (.int (p4 &&& (255 : Int32))), .val (.ref ob16), .val (.ref ob20), .unset]) rfl rfl ?_
    refine go_iload (q := 164) X27 hx (hb hby at_162) (v := (1 : Int32)) rfl rfl ?_
    refine go_ifN (q := 167) X27 hx (hb hby at_164) (XT.i0_le_f (by decide)) rfl ?_
    refine go_iload (q := 169) X27 hx (hb hby at_167) (v := (p1 &&& (255 : Int32))) rfl rfl ?_
    refine go_bipush (q := 171) X27 hx (hb hby at_169) (v := (69 : Int32)) (by decide) rfl ?_
    by_cases c29 : (p1 &&& (255 : Int32)) = (69 : Int32)
    · refine go_icmpY (q := 213) X27 hx (hb hby at_171) (XT.ii_eq_t c29) (by decide) (by decide) ?_
      refine go_iconst (q := 214) X27 hx (hb hby at_213) (v := (1 : Int32)) (by decide) rfl ?_
      refine go_goto (q := 218) X27 hx (hb hby at_214) (by decide) (by decide) ?_
      refine go_istore (q := 220) X27 hx (hb hby at_218) (l' := #[.val (.int p0), .val (.int p1), .val (.int p2), .val (.int p3), .val (.int p4), .val (.int (1 : Int32)), .val (.int (p1 &&& (255 : Int32))), .val (.int (p2 &&& (255 : Int32))), .val (.int (p3 &&& (255 : Int32))), .val (.int (p4 &&& (255 : Int32))), .val (.ref ob16), .val (.ref ob20), .val (.int (1 : Int32))]) rfl rfl ?_
      refine go_aload (q := 222) X27 hx (hb hby at_220) (v := (.ref ob20)) rfl rfl rfl ?_
      have O30 : Old Z n0 h27 := (O26.keep K27 (allS fr20 all0))
      refine go_static (q := 225) X27 hx hZ hown (y := (⟨"com/example/harborspread/harborspread/Decimals", "isTooLong", "(Ljava/lang/String;)Z"⟩ : MethodName)) (w23 hw) (w24 hw) (w25 hw) (w26 hw) (by decide) e27 (b4_1 l Z a0 hw ob20 r_27 kb_27 zc (p1 &&& (255 : Int32)) h27 n0 O30 p27_1 p27_3 p27_2 p27_4 S_0 r_1) (argsL := [(.ref ob20)]) (rest := []) rfl (lenOf pd_12 rfl) rfl (by rw [hml]; rfl) (W := 0) (Nat.le_of_eq rfl) (hb hby at_222) (by decide) (by decide) (by decide) (by decide) rfl ?_
      have f32 : Arv Z h27 ob16 k16 .char (1 : Int32) [(.int (p1 &&& (255 : Int32)))] (.int (0 : Int32)) := (f25.keep K27 (ninS ne_ob16_ob20 nin0))
      rintro T31 h31 _ L31 X31 e31 ⟨r_31, rfl, M31, K31, p31_0⟩
      have N31 := Fr.app N27 M31
      have H33 := H28.trans (CHr.keep K31 sf0 H28.1)
      refine go_iload (q := 227) X31 hx (hb hby at_225) (v := (1 : Int32)) rfl rfl ?_
      refine go_icmpN (q := 230) X31 hx (hb hby at_227) (XT.ii_ne_f (by have z := p31_0; (try simp only [own_b69] at z); rcases z with ⟨q, q2⟩ | ⟨q, q2⟩ <;> first | exact q | (exfalso; simp [c29] at q2))) rfl ?_
      refine go_iconst (q := 231) X31 hx (hb hby at_230) (v := (1 : Int32)) (by decide) rfl ?_
      refine go_goto (q := 235) X31 hx (hb hby at_231) (by decide) (by decide) ?_
      refine go_retIS X31 hx hS0 (Nat.zero_le _) hZ hEL H33 hh0 hret hlk e31 (hb hby at_235) (by simp) (by decide) (by decide) (by decide) ?_
      exact ⟨(by first | rfl | simp [c29] | simp_all), N31, ((((((Keep.refl h0 []).ext E16).wr W18 (Or.inr sn16)).ext E20).trans K27 (allS (P := fun x => x ∈ [] ∨ h0.size ≤ x) (Or.inr sn20) all0)).trans K31 all0)⟩
    · refine go_icmpN (q := 174) X27 hx (hb hby at_171) (XT.ii_eq_f c29) rfl ?_
      refine go_iload (q := 176) X27 hx (hb hby at_174) (v := (1 : Int32)) rfl rfl ?_
      refine go_iconst (q := 177) X27 hx (hb hby at_176) (v := (1 : Int32)) (by decide) rfl ?_
      refine go_icmpY (q := 187) X27 hx (hb hby at_177) (XT.ii_le_t (by decide)) (by decide) (by decide) ?_
      refine go_iload (q := 189) X27 hx (hb hby at_187) (v := (1 : Int32)) rfl rfl ?_
      refine go_iconst (q := 190) X27 hx (hb hby at_189) (v := (2 : Int32)) (by decide) rfl ?_
      refine go_icmpY (q := 200) X27 hx (hb hby at_190) (XT.ii_le_t (by decide)) (by decide) (by decide) ?_
      refine go_iload (q := 202) X27 hx (hb hby at_200) (v := (1 : Int32)) rfl rfl ?_
      refine go_iconst (q := 203) X27 hx (hb hby at_202) (v := (3 : Int32)) (by decide) rfl ?_
      refine go_icmpY (q := 217) X27 hx (hb hby at_203) (XT.ii_le_t (by decide)) (by decide) (by decide) ?_
      refine go_iconst (q := 218) X27 hx (hb hby at_217) (v := (0 : Int32)) (by decide) rfl ?_
      refine go_istore (q := 220) X27 hx (hb hby at_218) (l' := #[.val (.int p0), .val (.int p1), .val (.int p2), .val (.int p3), .val (.int p4), .val (.int (1 : Int32)), .val (.int (p1 &&& (255 : Int32))), .val (.int (p2 &&& (255 : Int32))), .val (.int (p3 &&& (255 : Int32))), .val (.int (p4 &&& (255 : Int32))), .val (.ref ob16), .val (.ref ob20), .val (.int (0 : Int32))]) rfl rfl ?_
      refine go_aload (q := 222) X27 hx (hb hby at_220) (v := (.ref ob20)) rfl rfl rfl ?_
      have O34 : Old Z n0 h27 := (O26.keep K27 (allS fr20 all0))
      refine go_static (q := 225) X27 hx hZ hown (y := (⟨"com/example/harborspread/harborspread/Decimals", "isTooLong", "(Ljava/lang/String;)Z"⟩ : MethodName)) (w23 hw) (w24 hw) (w25 hw) (w26 hw) (by decide) e27 (b4_1 l Z a0 hw ob20 r_27 kb_27 zc (p1 &&& (255 : Int32)) h27 n0 O34 p27_1 p27_3 p27_2 p27_4 S_0 r_1) (argsL := [(.ref ob20)]) (rest := []) rfl (lenOf pd_12 rfl) rfl (by rw [hml]; rfl) (W := 0) (Nat.le_of_eq rfl) (hb hby at_222) (by decide) (by decide) (by decide) (by decide) rfl ?_
      have f36 : Arv Z h27 ob16 k16 .char (1 : Int32) [(.int (p1 &&& (255 : Int32)))] (.int (0 : Int32)) := (f25.keep K27 (ninS ne_ob16_ob20 nin0))
      rintro T35 h35 _ L35 X35 e35 ⟨r_35, rfl, M35, K35, p35_0⟩
      have N35 := Fr.app N27 M35
      have H37 := H28.trans (CHr.keep K35 sf0 H28.1)
      refine go_iload (q := 227) X35 hx (hb hby at_225) (v := (0 : Int32)) rfl rfl ?_
      refine go_icmpN (q := 230) X35 hx (hb hby at_227) (XT.ii_ne_f (by have z := p35_0; (try simp only [own_b69] at z); rcases z with ⟨q, q2⟩ | ⟨q, q2⟩ <;> first | exact q | (exfalso; simp [c29] at q2))) rfl ?_
      refine go_iconst (q := 231) X35 hx (hb hby at_230) (v := (1 : Int32)) (by decide) rfl ?_
      refine go_goto (q := 235) X35 hx (hb hby at_231) (by decide) (by decide) ?_
      refine go_retIS X35 hx hS0 (Nat.zero_le _) hZ hEL H37 hh0 hret hlk e35 (hb hby at_235) (by simp) (by decide) (by decide) (by decide) ?_
      exact ⟨(by first | rfl | simp [c29] | simp_all), N35, ((((((Keep.refl h0 []).ext E16).wr W18 (Or.inr sn16)).ext E20).trans K27 (allS (P := fun x => x ∈ [] ∨ h0.size ≤ x) (Or.inr sn20) all0)).trans K35 all0)⟩
  · rw [c9]
    refine go_ifY (q := 54) X0 hx (hb hby at_43) (XT.i0_ne_t (by decide)) (by decide) (by decide) ?_
    refine go_iload (q := 56) X0 hx (hb hby at_54) (v := (2 : Int32)) rfl rfl ?_
    refine go_iconst (q := 57) X0 hx (hb hby at_56) (v := (1 : Int32)) (by decide) rfl ?_
    refine go_icmpY (q := 73) X0 hx (hb hby at_57) (XT.ii_ne_t (by decide)) (by decide) (by decide) ?_
    refine go_iload (q := 75) X0 hx (hb hby at_73) (v := (2 : Int32)) rfl rfl ?_
    refine go_iconst (q := 76) X0 hx (hb hby at_75) (v := (2 : Int32)) (by decide) rfl ?_
    refine go_icmpN (q := 79) X0 hx (hb hby at_76) (XT.ii_ne_f (by decide)) rfl ?_
    refine go_iconst (q := 80) X0 hx (hb hby at_79) (v := (2 : Int32)) (by decide) rfl ?_
    refine go_newP (q := 82) (ty := .char) (cap := 2) (vs := [(.int (0 : Int32)), (.int (0 : Int32))]) (dv := (.int (0 : Int32))) X0 hx hZ rfl (w1 hw) e0 (hb hby at_80) (by decide) (by decide) (by decide) (by decide) (by decide) rfl rfl rfl ?_
    intro T38 h38 ob38 k38 g38 X38 e38 E38 A38
    have fr38 : n0 ≤ ob38 := own_ge O0 g38
    have sn38 : h0.size ≤ ob38 := g38 ▸ (Nat.le_refl _)
    have H39 := H0.trans (CHr.ext E38 H0.1)
    refine go_dup (q := 83) X38 hx (hb hby at_82) rfl rfl ?_
    refine go_iconst (q := 84) X38 hx (hb hby at_83) (v := (0 : Int32)) (by decide) rfl ?_
    refine go_iload (q := 86) X38 hx (hb hby at_84) (v := (p1 &&& (255 : Int32))) rfl rfl ?_
    refine go_castore (q := 87) (j := (0 : Int32)) (i := 0) (vs' := [(.int (p1 &&& (255 : Int32))), (.int (0 : Int32))]) X38 hx hZ e38 A38 (by decide) (by decide) (show (0 : Nat) < 2 by decide) (i2c_mask _) rfl (hb hby at_86) rfl ?_
    intro T40 h40 X40 e40 W40 A40
    have N40 := Fr.snoc X40 N0 fr38
    have H41 := H39.trans (CHr.wr W40 (Safe.arv hZ.alike A38 (by decide)) H39.1)
    refine go_dup (q := 88) X40 hx (hb hby at_87) rfl rfl ?_
    refine go_iconst (q := 89) X40 hx (hb hby at_88) (v := (1 : Int32)) (by decide) rfl ?_
    refine go_iload (q := 91) X40 hx (hb hby at_89) (v := (p2 &&& (255 : Int32))) rfl rfl ?_
    refine go_castore (q := 92) (j := (1 : Int32)) (i := 1) (vs' := [(.int (p1 &&& (255 : Int32))), (.int (p2 &&& (255 : Int32)))]) X40 hx hZ e40 A40 (by decide) (by decide) (show (1 : Nat) < 2 by decide) (i2c_mask _) rfl (hb hby at_91) rfl ?_
    intro T42 h42 X42 e42 W42 A42
    have N42 := Fr.snoc X42 N40 fr38
    have H43 := H41.trans (CHr.wr W42 (Safe.arv hZ.alike A40 (by decide)) H41.1)
    refine go_astore (q := 94) X42 hx (hb hby at_92) rfl (l' := #[.val (.int p0), .val (.int p1), .val (.int p2), .val (.int p3), .val (.int p4), .val (.int (2 : Int32)), .val (.int (p1 &&& (255 : Int32))), .val (.int (p2 &&& (255 : Int32))), .val (.int (p3 &&& (255 : Int32))), .val (.int (p4 &&& (255 : Int32))), .val (.ref ob38), .unset, .unset]) rfl rfl ?_
    refine go_goto (q := 151) X42 hx (hb hby at_94) (by decide) (by decide) ?_
    have O45 : Old Z n0 h42 := (((O0.ext E38).wr W40 fr38).wr W42 fr38)
    refine go_new (q := 154) X42 hx hZ hown (w2 hw) (w3 hw) (w4 hw) e42 (hb hby at_151) (by decide) (by decide) rfl ?_
    intro T44 h44 ob44 g44 X44 e44 E44 A44 D44
    have fr44 : n0 ≤ ob44 := own_ge O45 g44
    have sn44 : h0.size ≤ ob44 := g44 ▸ (Nat.le_trans (Nat.le_trans (Nat.le_trans (Nat.le_refl _) E38.1) (Nat.le_of_eq W40.size.symm)) (Nat.le_of_eq W42.size.symm))
    have ne_ob38_ob44 : ob38 ≠ ob44 := own_lt g44 A42.lt
    have H46 := H43.trans (CHr.ext E44 H43.1)
    have f47 : Fld Z h44 ob44 "java/lang/String" "value" "[B" .null := D44 (Or.inr (w17 hw)) (ty := (.array .byte)) (by decide)
    have f48 : Fld Z h44 ob44 "java/lang/String" "coder" "B" (.int (0 : Int32)) := D44 (Or.inr (w18 hw)) (ty := .byte) (by decide)
    refine go_dup (q := 155) X44 hx (hb hby at_154) rfl rfl ?_
    refine go_aload (q := 157) X44 hx (hb hby at_155) (v := (.ref ob38)) rfl rfl rfl ?_
    have f49 : Arv Z h44 ob38 k38 .char (2 : Int32) [(.int (p1 &&& (255 : Int32))), (.int (p2 &&& (255 : Int32)))] (.int (0 : Int32)) := (A42.ext E44)
    have O50 : Old Z n0 h44 := (O45.ext E44)
    refine go_special (q := 160) X44 hx hZ hown (y := (⟨"java/lang/String", "<init>", "([C)V"⟩ : MethodName)) (a := ob44) rfl (w5 hw) (w6 hw) (w4 hw) (w7 hw) (by decide) e44 (b1_1 l Z a0 hw ob44 ob38 .null (.int (0 : Int32)) k38 (.int (0 : Int32)) zc (p1 &&& (255 : Int32)) (p2 &&& (255 : Int32)) h44 n0 O50 A44 f47 f48 fr44 f49 S_0 r_1 (own_le255 _) (own_le255 _)) (argsL := [(.ref ob38)]) (rest := [(.ref ob44)]) rfl (lenOf pd_11 rfl) rfl (by rw [hml]; rfl) (W := 1) (Nat.le_of_eq rfl) (hb hby at_157) (by decide) (by decide) (by decide) (by decide) rfl ?_
    rintro T51 h51 _ L51 X51 e51 ⟨r_51, kb_51, rfl, M51, K51, p51_0, p51_1, p51_2, p51_3, p51_4⟩
    have N51 := Fr.app N42 M51
    have H52 := H46.trans (CHr.keep K51 (sfS (Safe.ext E44 H43.1 (Safe.new (Nat.le_of_eq g44.symm))) sf0) H46.1)
    have fr_r_51 : n0 ≤ r_51 := Nat.le_trans (own_le O50) p51_0
    have sn_r_51 : h0.size ≤ r_51 := Nat.le_trans (Nat.le_trans (Nat.le_trans (Nat.le_trans (Nat.le_trans (Nat.le_refl _) E38.1) (Nat.le_of_eq W40.size.symm)) (Nat.le_of_eq W42.size.symm)) E44.1) p51_0
    have ne_ob38_r_51 : ob38 ≠ r_51 := own_ltg p51_0 f49.lt
    have ne_ob44_r_51 : ob44 ≠ r_51 := own_ltg p51_0 f48.lt
    refine go_astore (q := 162) X51 hx (hb hby at_160) rfl (l' := #[.val (.int p0), .val (.int p1), .val (.int p2), .val (.int p3), .val (.int p4), .val (.int (2 : Int32)), .val (.int (p1 &&& (255 : Int32))), .val (.int (p2 &&& (255 : Int32))), .val (.int (p3 &&& (255 : Int32))), .val (.int (p4 &&& (255 : Int32))), .val (.ref ob38), .val (.ref ob44), .unset]) rfl rfl ?_
    refine go_iload (q := 164) X51 hx (hb hby at_162) (v := (2 : Int32)) rfl rfl ?_
    refine go_ifN (q := 167) X51 hx (hb hby at_164) (XT.i0_le_f (by decide)) rfl ?_
    refine go_iload (q := 169) X51 hx (hb hby at_167) (v := (p1 &&& (255 : Int32))) rfl rfl ?_
    refine go_bipush (q := 171) X51 hx (hb hby at_169) (v := (69 : Int32)) (by decide) rfl ?_
    by_cases c53 : (p1 &&& (255 : Int32)) = (69 : Int32)
    · refine go_icmpY (q := 213) X51 hx (hb hby at_171) (XT.ii_eq_t c53) (by decide) (by decide) ?_
      refine go_iconst (q := 214) X51 hx (hb hby at_213) (v := (1 : Int32)) (by decide) rfl ?_
      refine go_goto (q := 218) X51 hx (hb hby at_214) (by decide) (by decide) ?_
      refine go_istore (q := 220) X51 hx (hb hby at_218) (l' := #[.val (.int p0), .val (.int p1), .val (.int p2), .val (.int p3), .val (.int p4), .val (.int (2 : Int32)), .val (.int (p1 &&& (255 : Int32))), .val (.int (p2 &&& (255 : Int32))), .val (.int (p3 &&& (255 : Int32))), .val (.int (p4 &&& (255 : Int32))), .val (.ref ob38), .val (.ref ob44), .val (.int (1 : Int32))]) rfl rfl ?_
      refine go_aload (q := 222) X51 hx (hb hby at_220) (v := (.ref ob44)) rfl rfl rfl ?_
      have O54 : Old Z n0 h51 := (O50.keep K51 (allS fr44 all0))
      refine go_static (q := 225) X51 hx hZ hown (y := (⟨"com/example/harborspread/harborspread/Decimals", "isTooLong", "(Ljava/lang/String;)Z"⟩ : MethodName)) (w23 hw) (w24 hw) (w25 hw) (w26 hw) (by decide) e51 (b4_2 l Z a0 hw ob44 r_51 kb_51 zc (p1 &&& (255 : Int32)) (p2 &&& (255 : Int32)) h51 n0 O54 p51_1 p51_3 p51_2 p51_4 S_0 r_1) (argsL := [(.ref ob44)]) (rest := []) rfl (lenOf pd_12 rfl) rfl (by rw [hml]; rfl) (W := 0) (Nat.le_of_eq rfl) (hb hby at_222) (by decide) (by decide) (by decide) (by decide) rfl ?_
      have f56 : Arv Z h51 ob38 k38 .char (2 : Int32) [(.int (p1 &&& (255 : Int32))), (.int (p2 &&& (255 : Int32)))] (.int (0 : Int32)) := (f49.keep K51 (ninS ne_ob38_ob44 nin0))
      rintro T55 h55 _ L55 X55 e55 ⟨r_55, rfl, M55, K55, p55_0⟩
      have N55 := Fr.app N51 M55
      have H57 := H52.trans (CHr.keep K55 sf0 H52.1)
      refine go_iload (q := 227) X55 hx (hb hby at_225) (v := (1 : Int32)) rfl rfl ?_
      refine go_icmpN (q := 230) X55 hx (hb hby at_227) (XT.ii_ne_f (by have z := p55_0; (try simp only [own_b69] at z); rcases z with ⟨q, q2⟩ | ⟨q, q2⟩ <;> first | exact q | (exfalso; simp [c53] at q2))) rfl ?_
      refine go_iconst (q := 231) X55 hx (hb hby at_230) (v := (1 : Int32)) (by decide) rfl ?_
      refine go_goto (q := 235) X55 hx (hb hby at_231) (by decide) (by decide) ?_
      refine go_retIS X55 hx hS0 (Nat.zero_le _) hZ hEL H57 hh0 hret hlk e55 (hb hby at_235) (by simp) (by decide) (by decide) (by decide) ?_
      exact ⟨(by first | rfl | simp [c53] | simp_all), N55, (((((((Keep.refl h0 []).ext E38).wr W40 (Or.inr sn38)).wr W42 (Or.inr sn38)).ext E44).trans K51 (allS (P := fun x => x ∈ [] ∨ h0.size ≤ x) (Or.inr sn44) all0)).trans K55 all0)⟩
    · refine go_icmpN (q := 174) X51 hx (hb hby at_171) (XT.ii_eq_f c53) rfl ?_
      refine go_iload (q := 176) X51 hx (hb hby at_174) (v := (2 : Int32)) rfl rfl ?_
      refine go_iconst (q := 177) X51 hx (hb hby at_176) (v := (1 : Int32)) (by decide) rfl ?_
      refine go_icmpN (q := 180) X51 hx (hb hby at_177) (XT.ii_le_f (by decide)) rfl ?_
      refine go_iload (q := 182) X51 hx (hb hby at_180) (v := (p2 &&& (255 : Int32))) rfl rfl ?_
      refine go_bipush (q := 184) X51 hx (hb hby at_182) (v := (69 : Int32)) (by decide) rfl ?_
      by_cases c58 : (p2 &&& (255 : Int32)) = (69 : Int32)
      · refine go_icmpY (q := 213) X51 hx (hb hby at_184) (XT.ii_eq_t c58) (by decide) (by decide) ?_
        refine go_iconst (q := 214) X51 hx (hb hby at_213) (v := (1 : Int32)) (by decide) rfl ?_
        refine go_goto (q := 218) X51 hx (hb hby at_214) (by decide) (by decide) ?_
        refine go_istore (q := 220) X51 hx (hb hby at_218) (l' := #[.val (.int p0), .val (.int p1), .val (.int p2), .val (.int p3), .val (.int p4), .val (.int (2 : Int32)), .val (.int (p1 &&& (255 : Int32))), .val (.int (p2 &&& (255 : Int32))), .val (.int (p3 &&& (255 : Int32))), .val (.int (p4 &&& (255 : Int32))), .val (.ref ob38), .val (.ref ob44), .val (.int (1 : Int32))]) rfl rfl ?_
        refine go_aload (q := 222) X51 hx (hb hby at_220) (v := (.ref ob44)) rfl rfl rfl ?_
        have O59 : Old Z n0 h51 := (O50.keep K51 (allS fr44 all0))
        refine go_static (q := 225) X51 hx hZ hown (y := (⟨"com/example/harborspread/harborspread/Decimals", "isTooLong", "(Ljava/lang/String;)Z"⟩ : MethodName)) (w23 hw) (w24 hw) (w25 hw) (w26 hw) (by decide) e51 (b4_2 l Z a0 hw ob44 r_51 kb_51 zc (p1 &&& (255 : Int32)) (p2 &&& (255 : Int32)) h51 n0 O59 p51_1 p51_3 p51_2 p51_4 S_0 r_1) (argsL := [(.ref ob44)]) (rest := []) rfl (lenOf pd_12 rfl) rfl (by rw [hml]; rfl) (W := 0) (Nat.le_of_eq rfl) (hb hby at_222) (by decide) (by decide) (by decide) (by decide) rfl ?_
        have f61 : Arv Z h51 ob38 k38 .char (2 : Int32) [(.int (p1 &&& (255 : Int32))), (.int (p2 &&& (255 : Int32)))] (.int (0 : Int32)) := (f49.keep K51 (ninS ne_ob38_ob44 nin0))
        rintro T60 h60 _ L60 X60 e60 ⟨r_60, rfl, M60, K60, p60_0⟩
        have N60 := Fr.app N51 M60
        have H62 := H52.trans (CHr.keep K60 sf0 H52.1)
        refine go_iload (q := 227) X60 hx (hb hby at_225) (v := (1 : Int32)) rfl rfl ?_
        refine go_icmpN (q := 230) X60 hx (hb hby at_227) (XT.ii_ne_f (by have z := p60_0; (try simp only [own_b69] at z); rcases z with ⟨q, q2⟩ | ⟨q, q2⟩ <;> first | exact q | (exfalso; simp [c53, c58] at q2))) rfl ?_
        refine go_iconst (q := 231) X60 hx (hb hby at_230) (v := (1 : Int32)) (by decide) rfl ?_
        refine go_goto (q := 235) X60 hx (hb hby at_231) (by decide) (by decide) ?_
        refine go_retIS X60 hx hS0 (Nat.zero_le _) hZ hEL H62 hh0 hret hlk e60 (hb hby at_235) (by simp) (by decide) (by decide) (by decide) ?_
        exact ⟨(by first | rfl | simp [c53, c58] | simp_all), N60, (((((((Keep.refl h0 []).ext E38).wr W40 (Or.inr sn38)).wr W42 (Or.inr sn38)).ext E44).trans K51 (allS (P := fun x => x ∈ [] ∨ h0.size ≤ x) (Or.inr sn44) all0)).trans K60 all0)⟩
      · refine go_icmpN (q := 187) X51 hx (hb hby at_184) (XT.ii_eq_f c58) rfl ?_
        refine go_iload (q := 189) X51 hx (hb hby at_187) (v := (2 : Int32)) rfl rfl ?_
        refine go_iconst (q := 190) X51 hx (hb hby at_189) (v := (2 : Int32)) (by decide) rfl ?_
        refine go_icmpY (q := 200) X51 hx (hb hby at_190) (XT.ii_le_t (by decide)) (by decide) (by decide) ?_
        refine go_iload (q := 202) X51 hx (hb hby at_200) (v := (2 : Int32)) rfl rfl ?_
        refine go_iconst (q := 203) X51 hx (hb hby at_202) (v := (3 : Int32)) (by decide) rfl ?_
        refine go_icmpY (q := 217) X51 hx (hb hby at_203) (XT.ii_le_t (by decide)) (by decide) (by decide) ?_
        refine go_iconst (q := 218) X51 hx (hb hby at_217) (v := (0 : Int32)) (by decide) rfl ?_
        refine go_istore (q := 220) X51 hx (hb hby at_218) (l' := #[.val (.int p0), .val (.int p1), .val (.int p2), .val (.int p3), .val (.int p4), .val (.int (2 : Int32)), .val (.int (p1 &&& (255 : Int32))), .val (.int (p2 &&& (255 : Int32))), .val (.int (p3 &&& (255 : Int32))), .val (.int (p4 &&& (255 : Int32))), .val (.ref ob38), .val (.ref ob44), .val (.int (0 : Int32))]) rfl rfl ?_
        refine go_aload (q := 222) X51 hx (hb hby at_220) (v := (.ref ob44)) rfl rfl rfl ?_
        have O63 : Old Z n0 h51 := (O50.keep K51 (allS fr44 all0))
        refine go_static (q := 225) X51 hx hZ hown (y := (⟨"com/example/harborspread/harborspread/Decimals", "isTooLong", "(Ljava/lang/String;)Z"⟩ : MethodName)) (w23 hw) (w24 hw) (w25 hw) (w26 hw) (by decide) e51 (b4_2 l Z a0 hw ob44 r_51 kb_51 zc (p1 &&& (255 : Int32)) (p2 &&& (255 : Int32)) h51 n0 O63 p51_1 p51_3 p51_2 p51_4 S_0 r_1) (argsL := [(.ref ob44)]) (rest := []) rfl (lenOf pd_12 rfl) rfl (by rw [hml]; rfl) (W := 0) (Nat.le_of_eq rfl) (hb hby at_222) (by decide) (by decide) (by decide) (by decide) rfl ?_
        have f65 : Arv Z h51 ob38 k38 .char (2 : Int32) [(.int (p1 &&& (255 : Int32))), (.int (p2 &&& (255 : Int32)))] (.int (0 : Int32)) := (f49.keep K51 (ninS ne_ob38_ob44 nin0))
        rintro T64 h64 _ L64 X64 e64 ⟨r_64, rfl, M64, K64, p64_0⟩
        have N64 := Fr.app N51 M64
        have H66 := H52.trans (CHr.keep K64 sf0 H52.1)
        refine go_iload (q := 227) X64 hx (hb hby at_225) (v := (0 : Int32)) rfl rfl ?_
        refine go_icmpN (q := 230) X64 hx (hb hby at_227) (XT.ii_ne_f (by have z := p64_0; (try simp only [own_b69] at z); rcases z with ⟨q, q2⟩ | ⟨q, q2⟩ <;> first | exact q | (exfalso; simp [c53, c58] at q2))) rfl ?_
        refine go_iconst (q := 231) X64 hx (hb hby at_230) (v := (1 : Int32)) (by decide) rfl ?_
        refine go_goto (q := 235) X64 hx (hb hby at_231) (by decide) (by decide) ?_
        refine go_retIS X64 hx hS0 (Nat.zero_le _) hZ hEL H66 hh0 hret hlk e64 (hb hby at_235) (by simp) (by decide) (by decide) (by decide) ?_
        exact ⟨(by first | rfl | simp [c53, c58] | simp_all), N64, (((((((Keep.refl h0 []).ext E38).wr W40 (Or.inr sn38)).wr W42 (Or.inr sn38)).ext E44).trans K51 (allS (P := fun x => x ∈ [] ∨ h0.size ≤ x) (Or.inr sn44) all0)).trans K64 all0)⟩
  · rw [c9]
    refine go_ifY (q := 54) X0 hx (hb hby at_43) (XT.i0_ne_t (by decide)) (by decide) (by decide) ?_
    refine go_iload (q := 56) X0 hx (hb hby at_54) (v := (3 : Int32)) rfl rfl ?_
    refine go_iconst (q := 57) X0 hx (hb hby at_56) (v := (1 : Int32)) (by decide) rfl ?_
    refine go_icmpY (q := 73) X0 hx (hb hby at_57) (XT.ii_ne_t (by decide)) (by decide) (by decide) ?_
    refine go_iload (q := 75) X0 hx (hb hby at_73) (v := (3 : Int32)) rfl rfl ?_
    refine go_iconst (q := 76) X0 hx (hb hby at_75) (v := (2 : Int32)) (by decide) rfl ?_
    refine go_icmpY (q := 97) X0 hx (hb hby at_76) (XT.ii_ne_t (by decide)) (by decide) (by decide) ?_
    refine go_iload (q := 99) X0 hx (hb hby at_97) (v := (3 : Int32)) rfl rfl ?_
    refine go_iconst (q := 100) X0 hx (hb hby at_99) (v := (3 : Int32)) (by decide) rfl ?_
    refine go_icmpN (q := 103) X0 hx (hb hby at_100) (XT.ii_ne_f (by decide)) rfl ?_
    refine go_iconst (q := 104) X0 hx (hb hby at_103) (v := (3 : Int32)) (by decide) rfl ?_
    refine go_newP (q := 106) (ty := .char) (cap := 3) (vs := [(.int (0 : Int32)), (.int (0 : Int32)), (.int (0 : Int32))]) (dv := (.int (0 : Int32))) X0 hx hZ rfl (w1 hw) e0 (hb hby at_104) (by decide) (by decide) (by decide) (by decide) (by decide) rfl rfl rfl ?_
    intro T67 h67 ob67 k67 g67 X67 e67 E67 A67
    have fr67 : n0 ≤ ob67 := own_ge O0 g67
    have sn67 : h0.size ≤ ob67 := g67 ▸ (Nat.le_refl _)
    have H68 := H0.trans (CHr.ext E67 H0.1)
    refine go_dup (q := 107) X67 hx (hb hby at_106) rfl rfl ?_
    refine go_iconst (q := 108) X67 hx (hb hby at_107) (v := (0 : Int32)) (by decide) rfl ?_
    refine go_iload (q := 110) X67 hx (hb hby at_108) (v := (p1 &&& (255 : Int32))) rfl rfl ?_
    refine go_castore (q := 111) (j := (0 : Int32)) (i := 0) (vs' := [(.int (p1 &&& (255 : Int32))), (.int (0 : Int32)), (.int (0 : Int32))]) X67 hx hZ e67 A67 (by decide) (by decide) (show (0 : Nat) < 3 by decide) (i2c_mask _) rfl (hb hby at_110) rfl ?_
    intro T69 h69 X69 e69 W69 A69
    have N69 := Fr.snoc X69 N0 fr67
    have H70 := H68.trans (CHr.wr W69 (Safe.arv hZ.alike A67 (by decide)) H68.1)
    refine go_dup (q := 112) X69 hx (hb hby at_111) rfl rfl ?_
    refine go_iconst (q := 113) X69 hx (hb hby at_112) (v := (1 : Int32)) (by decide) rfl ?_
    refine go_iload (q := 115) X69 hx (hb hby at_113) (v := (p2 &&& (255 : Int32))) rfl rfl ?_
    refine go_castore (q := 116) (j := (1 : Int32)) (i := 1) (vs' := [(.int (p1 &&& (255 : Int32))), (.int (p2 &&& (255 : Int32))), (.int (0 : Int32))]) X69 hx hZ e69 A69 (by decide) (by decide) (show (1 : Nat) < 3 by decide) (i2c_mask _) rfl (hb hby at_115) rfl ?_
    intro T71 h71 X71 e71 W71 A71
    have N71 := Fr.snoc X71 N69 fr67
    have H72 := H70.trans (CHr.wr W71 (Safe.arv hZ.alike A69 (by decide)) H70.1)
    refine go_dup (q := 117) X71 hx (hb hby at_116) rfl rfl ?_
    refine go_iconst (q := 118) X71 hx (hb hby at_117) (v := (2 : Int32)) (by decide) rfl ?_
    refine go_iload (q := 120) X71 hx (hb hby at_118) (v := (p3 &&& (255 : Int32))) rfl rfl ?_
    refine go_castore (q := 121) (j := (2 : Int32)) (i := 2) (vs' := [(.int (p1 &&& (255 : Int32))), (.int (p2 &&& (255 : Int32))), (.int (p3 &&& (255 : Int32)))]) X71 hx hZ e71 A71 (by decide) (by decide) (show (2 : Nat) < 3 by decide) (i2c_mask _) rfl (hb hby at_120) rfl ?_
    intro T73 h73 X73 e73 W73 A73
    have N73 := Fr.snoc X73 N71 fr67
    have H74 := H72.trans (CHr.wr W73 (Safe.arv hZ.alike A71 (by decide)) H72.1)
    refine go_astore (q := 123) X73 hx (hb hby at_121) rfl (l' := #[.val (.int p0), .val (.int p1), .val (.int p2), .val (.int p3), .val (.int p4), .val (.int (3 : Int32)), .val (.int (p1 &&& (255 : Int32))), .val (.int (p2 &&& (255 : Int32))), .val (.int (p3 &&& (255 : Int32))), .val (.int (p4 &&& (255 : Int32))), .val (.ref ob67), .unset, .unset]) rfl rfl ?_
    refine go_goto (q := 151) X73 hx (hb hby at_123) (by decide) (by decide) ?_
    have O76 : Old Z n0 h73 := ((((O0.ext E67).wr W69 fr67).wr W71 fr67).wr W73 fr67)
    refine go_new (q := 154) X73 hx hZ hown (w2 hw) (w3 hw) (w4 hw) e73 (hb hby at_151) (by decide) (by decide) rfl ?_
    intro T75 h75 ob75 g75 X75 e75 E75 A75 D75
    have fr75 : n0 ≤ ob75 := own_ge O76 g75
    have sn75 : h0.size ≤ ob75 := g75 ▸ (Nat.le_trans (Nat.le_trans (Nat.le_trans (Nat.le_trans (Nat.le_refl _) E67.1) (Nat.le_of_eq W69.size.symm)) (Nat.le_of_eq W71.size.symm)) (Nat.le_of_eq W73.size.symm))
    have ne_ob67_ob75 : ob67 ≠ ob75 := own_lt g75 A73.lt
    have H77 := H74.trans (CHr.ext E75 H74.1)
    have f78 : Fld Z h75 ob75 "java/lang/String" "value" "[B" .null := D75 (Or.inr (w17 hw)) (ty := (.array .byte)) (by decide)
    have f79 : Fld Z h75 ob75 "java/lang/String" "coder" "B" (.int (0 : Int32)) := D75 (Or.inr (w18 hw)) (ty := .byte) (by decide)
    refine go_dup (q := 155) X75 hx (hb hby at_154) rfl rfl ?_
    refine go_aload (q := 157) X75 hx (hb hby at_155) (v := (.ref ob67)) rfl rfl rfl ?_
    have f80 : Arv Z h75 ob67 k67 .char (3 : Int32) [(.int (p1 &&& (255 : Int32))), (.int (p2 &&& (255 : Int32))), (.int (p3 &&& (255 : Int32)))] (.int (0 : Int32)) := (A73.ext E75)
    have O81 : Old Z n0 h75 := (O76.ext E75)
    refine go_special (q := 160) X75 hx hZ hown (y := (⟨"java/lang/String", "<init>", "([C)V"⟩ : MethodName)) (a := ob75) rfl (w5 hw) (w6 hw) (w4 hw) (w7 hw) (by decide) e75 (b1_2 l Z a0 hw ob75 ob67 .null (.int (0 : Int32)) k67 (.int (0 : Int32)) zc (p1 &&& (255 : Int32)) (p2 &&& (255 : Int32)) (p3 &&& (255 : Int32)) h75 n0 O81 A75 f78 f79 fr75 f80 S_0 r_1 (own_le255 _) (own_le255 _) (own_le255 _)) (argsL := [(.ref ob67)]) (rest := [(.ref ob75)]) rfl (lenOf pd_11 rfl) rfl (by rw [hml]; rfl) (W := 1) (Nat.le_of_eq rfl) (hb hby at_157) (by decide) (by decide) (by decide) (by decide) rfl ?_
    rintro T82 h82 _ L82 X82 e82 ⟨r_82, kb_82, rfl, M82, K82, p82_0, p82_1, p82_2, p82_3, p82_4⟩
    have N82 := Fr.app N73 M82
    have H83 := H77.trans (CHr.keep K82 (sfS (Safe.ext E75 H74.1 (Safe.new (Nat.le_of_eq g75.symm))) sf0) H77.1)
    have fr_r_82 : n0 ≤ r_82 := Nat.le_trans (own_le O81) p82_0
    have sn_r_82 : h0.size ≤ r_82 := Nat.le_trans (Nat.le_trans (Nat.le_trans (Nat.le_trans (Nat.le_trans (Nat.le_trans (Nat.le_refl _) E67.1) (Nat.le_of_eq W69.size.symm)) (Nat.le_of_eq W71.size.symm)) (Nat.le_of_eq W73.size.symm)) E75.1) p82_0
    have ne_ob67_r_82 : ob67 ≠ r_82 := own_ltg p82_0 f80.lt
    have ne_ob75_r_82 : ob75 ≠ r_82 := own_ltg p82_0 f79.lt
    refine go_astore (q := 162) X82 hx (hb hby at_160) rfl (l' := #[.val (.int p0), .val (.int p1), .val (.int p2), .val (.int p3), .val (.int p4), .val (.int (3 : Int32)), .val (.int (p1 &&& (255 : Int32))), .val (.int (p2 &&& (255 : Int32))), .val (.int (p3 &&& (255 : Int32))), .val (.int (p4 &&& (255 : Int32))), .val (.ref ob67), .val (.ref ob75), .unset]) rfl rfl ?_
    refine go_iload (q := 164) X82 hx (hb hby at_162) (v := (3 : Int32)) rfl rfl ?_
    refine go_ifN (q := 167) X82 hx (hb hby at_164) (XT.i0_le_f (by decide)) rfl ?_
    refine go_iload (q := 169) X82 hx (hb hby at_167) (v := (p1 &&& (255 : Int32))) rfl rfl ?_
    refine go_bipush (q := 171) X82 hx (hb hby at_169) (v := (69 : Int32)) (by decide) rfl ?_
    by_cases c84 : (p1 &&& (255 : Int32)) = (69 : Int32)
    · refine go_icmpY (q := 213) X82 hx (hb hby at_171) (XT.ii_eq_t c84) (by decide) (by decide) ?_
      refine go_iconst (q := 214) X82 hx (hb hby at_213) (v := (1 : Int32)) (by decide) rfl ?_
      refine go_goto (q := 218) X82 hx (hb hby at_214) (by decide) (by decide) ?_
      refine go_istore (q := 220) X82 hx (hb hby at_218) (l' := #[.val (.int p0), .val (.int p1), .val (.int p2), .val (.int p3), .val (.int p4), .val (.int (3 : Int32)), .val (.int (p1 &&& (255 : Int32))), .val (.int (p2 &&& (255 : Int32))), .val (.int (p3 &&& (255 : Int32))), .val (.int (p4 &&& (255 : Int32))), .val (.ref ob67), .val (.ref ob75), .val (.int (1 : Int32))]) rfl rfl ?_
      refine go_aload (q := 222) X82 hx (hb hby at_220) (v := (.ref ob75)) rfl rfl rfl ?_
      have O85 : Old Z n0 h82 := (O81.keep K82 (allS fr75 all0))
      refine go_static (q := 225) X82 hx hZ hown (y := (⟨"com/example/harborspread/harborspread/Decimals", "isTooLong", "(Ljava/lang/String;)Z"⟩ : MethodName)) (w23 hw) (w24 hw) (w25 hw) (w26 hw) (by decide) e82 (b4_3 l Z a0 hw ob75 r_82 kb_82 zc (p1 &&& (255 : Int32)) (p2 &&& (255 : Int32)) (p3 &&& (255 : Int32)) h82 n0 O85 p82_1 p82_3 p82_2 p82_4 S_0 r_1) (argsL := [(.ref ob75)]) (rest := []) rfl (lenOf pd_12 rfl) rfl (by rw [hml]; rfl) (W := 0) (Nat.le_of_eq rfl) (hb hby at_222) (by decide) (by decide) (by decide) (by decide) rfl ?_
      have f87 : Arv Z h82 ob67 k67 .char (3 : Int32) [(.int (p1 &&& (255 : Int32))), (.int (p2 &&& (255 : Int32))), (.int (p3 &&& (255 : Int32)))] (.int (0 : Int32)) := (f80.keep K82 (ninS ne_ob67_ob75 nin0))
      rintro T86 h86 _ L86 X86 e86 ⟨r_86, rfl, M86, K86, p86_0⟩
      have N86 := Fr.app N82 M86
      have H88 := H83.trans (CHr.keep K86 sf0 H83.1)
      refine go_iload (q := 227) X86 hx (hb hby at_225) (v := (1 : Int32)) rfl rfl ?_
      refine go_icmpN (q := 230) X86 hx (hb hby at_227) (XT.ii_ne_f (by have z := p86_0; (try simp only [own_b69] at z); rcases z with ⟨q, q2⟩ | ⟨q, q2⟩ <;> first | exact q | (exfalso; simp [c84] at q2))) rfl ?_
      refine go_iconst (q := 231) X86 hx (hb hby at_230) (v := (1 : Int32)) (by decide) rfl ?_
      refine go_goto (q := 235) X86 hx (hb hby at_231) (by decide) (by decide) ?_
      refine go_retIS X86 hx hS0 (Nat.zero_le _) hZ hEL H88 hh0 hret hlk e86 (hb hby at_235) (by simp) (by decide) (by decide) (by decide) ?_
      exact ⟨(by first | rfl | simp [c84] | simp_all), N86, ((((((((Keep.refl h0 []).ext E67).wr W69 (Or.inr sn67)).wr W71 (Or.inr sn67)).wr W73 (Or.inr sn67)).ext E75).trans K82 (allS (P := fun x => x ∈ [] ∨ h0.size ≤ x) (Or.inr sn75) all0)).trans K86 all0)⟩
    · refine go_icmpN (q := 174) X82 hx (hb hby at_171) (XT.ii_eq_f c84) rfl ?_
      refine go_iload (q := 176) X82 hx (hb hby at_174) (v := (3 : Int32)) rfl rfl ?_
      refine go_iconst (q := 177) X82 hx (hb hby at_176) (v := (1 : Int32)) (by decide) rfl ?_
      refine go_icmpN (q := 180) X82 hx (hb hby at_177) (XT.ii_le_f (by decide)) rfl ?_
      refine go_iload (q := 182) X82 hx (hb hby at_180) (v := (p2 &&& (255 : Int32))) rfl rfl ?_
      refine go_bipush (q := 184) X82 hx (hb hby at_182) (v := (69 : Int32)) (by decide) rfl ?_
      by_cases c89 : (p2 &&& (255 : Int32)) = (69 : Int32)
      · refine go_icmpY (q := 213) X82 hx (hb hby at_184) (XT.ii_eq_t c89) (by decide) (by decide) ?_
        refine go_iconst (q := 214) X82 hx (hb hby at_213) (v := (1 : Int32)) (by decide) rfl ?_
        refine go_goto (q := 218) X82 hx (hb hby at_214) (by decide) (by decide) ?_
        refine go_istore (q := 220) X82 hx (hb hby at_218) (l' := #[.val (.int p0), .val (.int p1), .val (.int p2), .val (.int p3), .val (.int p4), .val (.int (3 : Int32)), .val (.int (p1 &&& (255 : Int32))), .val (.int (p2 &&& (255 : Int32))), .val (.int (p3 &&& (255 : Int32))), .val (.int (p4 &&& (255 : Int32))), .val (.ref ob67), .val (.ref ob75), .val (.int (1 : Int32))]) rfl rfl ?_
        refine go_aload (q := 222) X82 hx (hb hby at_220) (v := (.ref ob75)) rfl rfl rfl ?_
        have O90 : Old Z n0 h82 := (O81.keep K82 (allS fr75 all0))
        refine go_static (q := 225) X82 hx hZ hown (y := (⟨"com/example/harborspread/harborspread/Decimals", "isTooLong", "(Ljava/lang/String;)Z"⟩ : MethodName)) (w23 hw) (w24 hw) (w25 hw) (w26 hw) (by decide) e82 (b4_3 l Z a0 hw ob75 r_82 kb_82 zc (p1 &&& (255 : Int32)) (p2 &&& (255 : Int32)) (p3 &&& (255 : Int32)) h82 n0 O90 p82_1 p82_3 p82_2 p82_4 S_0 r_1) (argsL := [(.ref ob75)]) (rest := []) rfl (lenOf pd_12 rfl) rfl (by rw [hml]; rfl) (W := 0) (Nat.le_of_eq rfl) (hb hby at_222) (by decide) (by decide) (by decide) (by decide) rfl ?_
        have f92 : Arv Z h82 ob67 k67 .char (3 : Int32) [(.int (p1 &&& (255 : Int32))), (.int (p2 &&& (255 : Int32))), (.int (p3 &&& (255 : Int32)))] (.int (0 : Int32)) := (f80.keep K82 (ninS ne_ob67_ob75 nin0))
        rintro T91 h91 _ L91 X91 e91 ⟨r_91, rfl, M91, K91, p91_0⟩
        have N91 := Fr.app N82 M91
        have H93 := H83.trans (CHr.keep K91 sf0 H83.1)
        refine go_iload (q := 227) X91 hx (hb hby at_225) (v := (1 : Int32)) rfl rfl ?_
        refine go_icmpN (q := 230) X91 hx (hb hby at_227) (XT.ii_ne_f (by have z := p91_0; (try simp only [own_b69] at z); rcases z with ⟨q, q2⟩ | ⟨q, q2⟩ <;> first | exact q | (exfalso; simp [c84, c89] at q2))) rfl ?_
        refine go_iconst (q := 231) X91 hx (hb hby at_230) (v := (1 : Int32)) (by decide) rfl ?_
        refine go_goto (q := 235) X91 hx (hb hby at_231) (by decide) (by decide) ?_
        refine go_retIS X91 hx hS0 (Nat.zero_le _) hZ hEL H93 hh0 hret hlk e91 (hb hby at_235) (by simp) (by decide) (by decide) (by decide) ?_
        exact ⟨(by first | rfl | simp [c84, c89] | simp_all), N91, ((((((((Keep.refl h0 []).ext E67).wr W69 (Or.inr sn67)).wr W71 (Or.inr sn67)).wr W73 (Or.inr sn67)).ext E75).trans K82 (allS (P := fun x => x ∈ [] ∨ h0.size ≤ x) (Or.inr sn75) all0)).trans K91 all0)⟩
      · refine go_icmpN (q := 187) X82 hx (hb hby at_184) (XT.ii_eq_f c89) rfl ?_
        refine go_iload (q := 189) X82 hx (hb hby at_187) (v := (3 : Int32)) rfl rfl ?_
        refine go_iconst (q := 190) X82 hx (hb hby at_189) (v := (2 : Int32)) (by decide) rfl ?_
        refine go_icmpN (q := 193) X82 hx (hb hby at_190) (XT.ii_le_f (by decide)) rfl ?_
        refine go_iload (q := 195) X82 hx (hb hby at_193) (v := (p3 &&& (255 : Int32))) rfl rfl ?_
        refine go_bipush (q := 197) X82 hx (hb hby at_195) (v := (69 : Int32)) (by decide) rfl ?_
        by_cases c94 : (p3 &&& (255 : Int32)) = (69 : Int32)
        · refine go_icmpY (q := 213) X82 hx (hb hby at_197) (XT.ii_eq_t c94) (by decide) (by decide) ?_
          refine go_iconst (q := 214) X82 hx (hb hby at_213) (v := (1 : Int32)) (by decide) rfl ?_
          refine go_goto (q := 218) X82 hx (hb hby at_214) (by decide) (by decide) ?_
          refine go_istore (q := 220) X82 hx (hb hby at_218) (l' := #[.val (.int p0), .val (.int p1), .val (.int p2), .val (.int p3), .val (.int p4), .val (.int (3 : Int32)), .val (.int (p1 &&& (255 : Int32))), .val (.int (p2 &&& (255 : Int32))), .val (.int (p3 &&& (255 : Int32))), .val (.int (p4 &&& (255 : Int32))), .val (.ref ob67), .val (.ref ob75), .val (.int (1 : Int32))]) rfl rfl ?_
          refine go_aload (q := 222) X82 hx (hb hby at_220) (v := (.ref ob75)) rfl rfl rfl ?_
          have O95 : Old Z n0 h82 := (O81.keep K82 (allS fr75 all0))
          refine go_static (q := 225) X82 hx hZ hown (y := (⟨"com/example/harborspread/harborspread/Decimals", "isTooLong", "(Ljava/lang/String;)Z"⟩ : MethodName)) (w23 hw) (w24 hw) (w25 hw) (w26 hw) (by decide) e82 (b4_3 l Z a0 hw ob75 r_82 kb_82 zc (p1 &&& (255 : Int32)) (p2 &&& (255 : Int32)) (p3 &&& (255 : Int32)) h82 n0 O95 p82_1 p82_3 p82_2 p82_4 S_0 r_1) (argsL := [(.ref ob75)]) (rest := []) rfl (lenOf pd_12 rfl) rfl (by rw [hml]; rfl) (W := 0) (Nat.le_of_eq rfl) (hb hby at_222) (by decide) (by decide) (by decide) (by decide) rfl ?_
          have f97 : Arv Z h82 ob67 k67 .char (3 : Int32) [(.int (p1 &&& (255 : Int32))), (.int (p2 &&& (255 : Int32))), (.int (p3 &&& (255 : Int32)))] (.int (0 : Int32)) := (f80.keep K82 (ninS ne_ob67_ob75 nin0))
          rintro T96 h96 _ L96 X96 e96 ⟨r_96, rfl, M96, K96, p96_0⟩
          have N96 := Fr.app N82 M96
          have H98 := H83.trans (CHr.keep K96 sf0 H83.1)
          refine go_iload (q := 227) X96 hx (hb hby at_225) (v := (1 : Int32)) rfl rfl ?_
          refine go_icmpN (q := 230) X96 hx (hb hby at_227) (XT.ii_ne_f (by have z := p96_0; (try simp only [own_b69] at z); rcases z with ⟨q, q2⟩ | ⟨q, q2⟩ <;> first | exact q | (exfalso; simp [c84, c89, c94] at q2))) rfl ?_
          refine go_iconst (q := 231) X96 hx (hb hby at_230) (v := (1 : Int32)) (by decide) rfl ?_
          refine go_goto (q := 235) X96 hx (hb hby at_231) (by decide) (by decide) ?_
          refine go_retIS X96 hx hS0 (Nat.zero_le _) hZ hEL H98 hh0 hret hlk e96 (hb hby at_235) (by simp) (by decide) (by decide) (by decide) ?_
          exact ⟨(by first | rfl | simp [c84, c89, c94] | simp_all), N96, ((((((((Keep.refl h0 []).ext E67).wr W69 (Or.inr sn67)).wr W71 (Or.inr sn67)).wr W73 (Or.inr sn67)).ext E75).trans K82 (allS (P := fun x => x ∈ [] ∨ h0.size ≤ x) (Or.inr sn75) all0)).trans K96 all0)⟩
        · refine go_icmpN (q := 200) X82 hx (hb hby at_197) (XT.ii_eq_f c94) rfl ?_
          refine go_iload (q := 202) X82 hx (hb hby at_200) (v := (3 : Int32)) rfl rfl ?_
          refine go_iconst (q := 203) X82 hx (hb hby at_202) (v := (3 : Int32)) (by decide) rfl ?_
          refine go_icmpY (q := 217) X82 hx (hb hby at_203) (XT.ii_le_t (by decide)) (by decide) (by decide) ?_
          refine go_iconst (q := 218) X82 hx (hb hby at_217) (v := (0 : Int32)) (by decide) rfl ?_
          refine go_istore (q := 220) X82 hx (hb hby at_218) (l' := #[.val (.int p0), .val (.int p1), .val (.int p2), .val (.int p3), .val (.int p4), .val (.int (3 : Int32)), .val (.int (p1 &&& (255 : Int32))), .val (.int (p2 &&& (255 : Int32))), .val (.int (p3 &&& (255 : Int32))), .val (.int (p4 &&& (255 : Int32))), .val (.ref ob67), .val (.ref ob75), .val (.int (0 : Int32))]) rfl rfl ?_
          refine go_aload (q := 222) X82 hx (hb hby at_220) (v := (.ref ob75)) rfl rfl rfl ?_
          have O99 : Old Z n0 h82 := (O81.keep K82 (allS fr75 all0))
          refine go_static (q := 225) X82 hx hZ hown (y := (⟨"com/example/harborspread/harborspread/Decimals", "isTooLong", "(Ljava/lang/String;)Z"⟩ : MethodName)) (w23 hw) (w24 hw) (w25 hw) (w26 hw) (by decide) e82 (b4_3 l Z a0 hw ob75 r_82 kb_82 zc (p1 &&& (255 : Int32)) (p2 &&& (255 : Int32)) (p3 &&& (255 : Int32)) h82 n0 O99 p82_1 p82_3 p82_2 p82_4 S_0 r_1) (argsL := [(.ref ob75)]) (rest := []) rfl (lenOf pd_12 rfl) rfl (by rw [hml]; rfl) (W := 0) (Nat.le_of_eq rfl) (hb hby at_222) (by decide) (by decide) (by decide) (by decide) rfl ?_
          have f101 : Arv Z h82 ob67 k67 .char (3 : Int32) [(.int (p1 &&& (255 : Int32))), (.int (p2 &&& (255 : Int32))), (.int (p3 &&& (255 : Int32)))] (.int (0 : Int32)) := (f80.keep K82 (ninS ne_ob67_ob75 nin0))
          rintro T100 h100 _ L100 X100 e100 ⟨r_100, rfl, M100, K100, p100_0⟩
          have N100 := Fr.app N82 M100
          have H102 := H83.trans (CHr.keep K100 sf0 H83.1)
          refine go_iload (q := 227) X100 hx (hb hby at_225) (v := (0 : Int32)) rfl rfl ?_
          refine go_icmpN (q := 230) X100 hx (hb hby at_227) (XT.ii_ne_f (by have z := p100_0; (try simp only [own_b69] at z); rcases z with ⟨q, q2⟩ | ⟨q, q2⟩ <;> first | exact q | (exfalso; simp [c84, c89, c94] at q2))) rfl ?_
          refine go_iconst (q := 231) X100 hx (hb hby at_230) (v := (1 : Int32)) (by decide) rfl ?_
          refine go_goto (q := 235) X100 hx (hb hby at_231) (by decide) (by decide) ?_
          refine go_retIS X100 hx hS0 (Nat.zero_le _) hZ hEL H102 hh0 hret hlk e100 (hb hby at_235) (by simp) (by decide) (by decide) (by decide) ?_
          exact ⟨(by first | rfl | simp [c84, c89, c94] | simp_all), N100, ((((((((Keep.refl h0 []).ext E67).wr W69 (Or.inr sn67)).wr W71 (Or.inr sn67)).wr W73 (Or.inr sn67)).ext E75).trans K82 (allS (P := fun x => x ∈ [] ∨ h0.size ≤ x) (Or.inr sn75) all0)).trans K100 all0)⟩
  · rw [c9]
    refine go_ifY (q := 54) X0 hx (hb hby at_43) (XT.i0_ne_t (by decide)) (by decide) (by decide) ?_
    refine go_iload (q := 56) X0 hx (hb hby at_54) (v := (4 : Int32)) rfl rfl ?_
    refine go_iconst (q := 57) X0 hx (hb hby at_56) (v := (1 : Int32)) (by decide) rfl ?_
    refine go_icmpY (q := 73) X0 hx (hb hby at_57) (XT.ii_ne_t (by decide)) (by decide) (by decide) ?_
    refine go_iload (q := 75) X0 hx (hb hby at_73) (v := (4 : Int32)) rfl rfl ?_
    refine go_iconst (q := 76) X0 hx (hb hby at_75) (v := (2 : Int32)) (by decide) rfl ?_
    refine go_icmpY (q := 97) X0 hx (hb hby at_76) (XT.ii_ne_t (by decide)) (by decide) (by decide) ?_
    refine go_iload (q := 99) X0 hx (hb hby at_97) (v := (4 : Int32)) rfl rfl ?_
    refine go_iconst (q := 100) X0 hx (hb hby at_99) (v := (3 : Int32)) (by decide) rfl ?_
    refine go_icmpY (q := 126) X0 hx (hb hby at_100) (XT.ii_ne_t (by decide)) (by decide) (by decide) ?_
    refine go_iconst (q := 127) X0 hx (hb hby at_126) (v := (4 : Int32)) (by decide) rfl ?_
    refine go_newP (q := 129) (ty := .char) (cap := 4) (vs := [(.int (0 : Int32)), (.int (0 : Int32)), (.int (0 : Int32)), (.int (0 : Int32))]) (dv := (.int (0 : Int32))) X0 hx hZ rfl (w1 hw) e0 (hb hby at_127) (by decide) (by decide) (by decide) (by decide) (by decide) rfl rfl rfl ?_
    intro T103 h103 ob103 k103 g103 X103 e103 E103 A103
    have fr103 : n0 ≤ ob103 := own_ge O0 g103
    have sn103 : h0.size ≤ ob103 := g103 ▸ (Nat.le_refl _)
    have H104 := H0.trans (CHr.ext E103 H0.1)
    refine go_dup (q := 130) X103 hx (hb hby at_129) rfl rfl ?_
    refine go_iconst (q := 131) X103 hx (hb hby at_130) (v := (0 : Int32)) (by decide) rfl ?_
    refine go_iload (q := 133) X103 hx (hb hby at_131) (v := (p1 &&& (255 : Int32))) rfl rfl ?_
    refine go_castore (q := 134) (j := (0 : Int32)) (i := 0) (vs' := [(.int (p1 &&& (255 : Int32))), (.int (0 : Int32)), (.int (0 : Int32)), (.int (0 : Int32))]) X103 hx hZ e103 A103 (by decide) (by decide) (show (0 : Nat) < 4 by decide) (i2c_mask _) rfl (hb hby at_133) rfl ?_
    intro T105 h105 X105 e105 W105 A105
    have N105 := Fr.snoc X105 N0 fr103
    have H106 := H104.trans (CHr.wr W105 (Safe.arv hZ.alike A103 (by decide)) H104.1)
    refine go_dup (q := 135) X105 hx (hb hby at_134) rfl rfl ?_
    refine go_iconst (q := 136) X105 hx (hb hby at_135) (v := (1 : Int32)) (by decide) rfl ?_
    refine go_iload (q := 138) X105 hx (hb hby at_136) (v := (p2 &&& (255 : Int32))) rfl rfl ?_
    refine go_castore (q := 139) (j := (1 : Int32)) (i := 1) (vs' := [(.int (p1 &&& (255 : Int32))), (.int (p2 &&& (255 : Int32))), (.int (0 : Int32)), (.int (0 : Int32))]) X105 hx hZ e105 A105 (by decide) (by decide) (show (1 : Nat) < 4 by decide) (i2c_mask _) rfl (hb hby at_138) rfl ?_
    intro T107 h107 X107 e107 W107 A107
    have N107 := Fr.snoc X107 N105 fr103
    have H108 := H106.trans (CHr.wr W107 (Safe.arv hZ.alike A105 (by decide)) H106.1)
    refine go_dup (q := 140) X107 hx (hb hby at_139) rfl rfl ?_
    refine go_iconst (q := 141) X107 hx (hb hby at_140) (v := (2 : Int32)) (by decide) rfl ?_
    refine go_iload (q := 143) X107 hx (hb hby at_141) (v := (p3 &&& (255 : Int32))) rfl rfl ?_
    refine go_castore (q := 144) (j := (2 : Int32)) (i := 2) (vs' := [(.int (p1 &&& (255 : Int32))), (.int (p2 &&& (255 : Int32))), (.int (p3 &&& (255 : Int32))), (.int (0 : Int32))]) X107 hx hZ e107 A107 (by decide) (by decide) (show (2 : Nat) < 4 by decide) (i2c_mask _) rfl (hb hby at_143) rfl ?_
    intro T109 h109 X109 e109 W109 A109
    have N109 := Fr.snoc X109 N107 fr103
    have H110 := H108.trans (CHr.wr W109 (Safe.arv hZ.alike A107 (by decide)) H108.1)
    refine go_dup (q := 145) X109 hx (hb hby at_144) rfl rfl ?_
    refine go_iconst (q := 146) X109 hx (hb hby at_145) (v := (3 : Int32)) (by decide) rfl ?_
    refine go_iload (q := 148) X109 hx (hb hby at_146) (v := (p4 &&& (255 : Int32))) rfl rfl ?_
    refine go_castore (q := 149) (j := (3 : Int32)) (i := 3) (vs' := [(.int (p1 &&& (255 : Int32))), (.int (p2 &&& (255 : Int32))), (.int (p3 &&& (255 : Int32))), (.int (p4 &&& (255 : Int32)))]) X109 hx hZ e109 A109 (by decide) (by decide) (show (3 : Nat) < 4 by decide) (i2c_mask _) rfl (hb hby at_148) rfl ?_
    intro T111 h111 X111 e111 W111 A111
    have N111 := Fr.snoc X111 N109 fr103
    have H112 := H110.trans (CHr.wr W111 (Safe.arv hZ.alike A109 (by decide)) H110.1)
    refine go_astore (q := 151) X111 hx (hb hby at_149) rfl (l' := #[.val (.int p0), .val (.int p1), .val (.int p2), .val (.int p3), .val (.int p4), .val (.int (4 : Int32)), .val (.int (p1 &&& (255 : Int32))), .val (.int (p2 &&& (255 : Int32))), .val (.int (p3 &&& (255 : Int32))), .val (.int (p4 &&& (255 : Int32))), .val (.ref ob103), .unset, .unset]) rfl rfl ?_
    have O114 : Old Z n0 h111 := (((((O0.ext E103).wr W105 fr103).wr W107 fr103).wr W109 fr103).wr W111 fr103)
    refine go_new (q := 154) X111 hx hZ hown (w2 hw) (w3 hw) (w4 hw) e111 (hb hby at_151) (by decide) (by decide) rfl ?_
    intro T113 h113 ob113 g113 X113 e113 E113 A113 D113
    have fr113 : n0 ≤ ob113 := own_ge O114 g113
    have sn113 : h0.size ≤ ob113 := g113 ▸ (Nat.le_trans (Nat.le_trans (Nat.le_trans (Nat.le_trans (Nat.le_trans (Nat.le_refl _) E103.1) (Nat.le_of_eq W105.size.symm)) (Nat.le_of_eq W107.size.symm)) (Nat.le_of_eq W109.size.symm)) (Nat.le_of_eq W111.size.symm))
    have ne_ob103_ob113 : ob103 ≠ ob113 := own_lt g113 A111.lt
    have H115 := H112.trans (CHr.ext E113 H112.1)
    have f116 : Fld Z h113 ob113 "java/lang/String" "value" "[B" .null := D113 (Or.inr (w17 hw)) (ty := (.array .byte)) (by decide)
    have f117 : Fld Z h113 ob113 "java/lang/String" "coder" "B" (.int (0 : Int32)) := D113 (Or.inr (w18 hw)) (ty := .byte) (by decide)
    refine go_dup (q := 155) X113 hx (hb hby at_154) rfl rfl ?_
    refine go_aload (q := 157) X113 hx (hb hby at_155) (v := (.ref ob103)) rfl rfl rfl ?_
    have f118 : Arv Z h113 ob103 k103 .char (4 : Int32) [(.int (p1 &&& (255 : Int32))), (.int (p2 &&& (255 : Int32))), (.int (p3 &&& (255 : Int32))), (.int (p4 &&& (255 : Int32)))] (.int (0 : Int32)) := (A111.ext E113)
    have O119 : Old Z n0 h113 := (O114.ext E113)
    refine go_special (q := 160) X113 hx hZ hown (y := (⟨"java/lang/String", "<init>", "([C)V"⟩ : MethodName)) (a := ob113) rfl (w5 hw) (w6 hw) (w4 hw) (w7 hw) (by decide) e113 (b1_3 l Z a0 hw ob113 ob103 .null (.int (0 : Int32)) k103 (.int (0 : Int32)) zc (p1 &&& (255 : Int32)) (p2 &&& (255 : Int32)) (p3 &&& (255 : Int32)) (p4 &&& (255 : Int32)) h113 n0 O119 A113 f116 f117 fr113 f118 S_0 r_1 (own_le255 _) (own_le255 _) (own_le255 _) (own_le255 _)) (argsL := [(.ref ob103)]) (rest := [(.ref ob113)]) rfl (lenOf pd_11 rfl) rfl (by rw [hml]; rfl) (W := 1) (Nat.le_of_eq rfl) (hb hby at_157) (by decide) (by decide) (by decide) (by decide) rfl ?_
    rintro T120 h120 _ L120 X120 e120 ⟨r_120, kb_120, rfl, M120, K120, p120_0, p120_1, p120_2, p120_3, p120_4⟩
    have N120 := Fr.app N111 M120
    have H121 := H115.trans (CHr.keep K120 (sfS (Safe.ext E113 H112.1 (Safe.new (Nat.le_of_eq g113.symm))) sf0) H115.1)
    have fr_r_120 : n0 ≤ r_120 := Nat.le_trans (own_le O119) p120_0
    have sn_r_120 : h0.size ≤ r_120 := Nat.le_trans (Nat.le_trans (Nat.le_trans (Nat.le_trans (Nat.le_trans (Nat.le_trans (Nat.le_trans (Nat.le_refl _) E103.1) (Nat.le_of_eq W105.size.symm)) (Nat.le_of_eq W107.size.symm)) (Nat.le_of_eq W109.size.symm)) (Nat.le_of_eq W111.size.symm)) E113.1) p120_0
    have ne_ob103_r_120 : ob103 ≠ r_120 := own_ltg p120_0 f118.lt
    have ne_ob113_r_120 : ob113 ≠ r_120 := own_ltg p120_0 f117.lt
    refine go_astore (q := 162) X120 hx (hb hby at_160) rfl (l' := #[.val (.int p0), .val (.int p1), .val (.int p2), .val (.int p3), .val (.int p4), .val (.int (4 : Int32)), .val (.int (p1 &&& (255 : Int32))), .val (.int (p2 &&& (255 : Int32))), .val (.int (p3 &&& (255 : Int32))), .val (.int (p4 &&& (255 : Int32))), .val (.ref ob103), .val (.ref ob113), .unset]) rfl rfl ?_
    refine go_iload (q := 164) X120 hx (hb hby at_162) (v := (4 : Int32)) rfl rfl ?_
    refine go_ifN (q := 167) X120 hx (hb hby at_164) (XT.i0_le_f (by decide)) rfl ?_
    refine go_iload (q := 169) X120 hx (hb hby at_167) (v := (p1 &&& (255 : Int32))) rfl rfl ?_
    refine go_bipush (q := 171) X120 hx (hb hby at_169) (v := (69 : Int32)) (by decide) rfl ?_
    by_cases c122 : (p1 &&& (255 : Int32)) = (69 : Int32)
    · refine go_icmpY (q := 213) X120 hx (hb hby at_171) (XT.ii_eq_t c122) (by decide) (by decide) ?_
      refine go_iconst (q := 214) X120 hx (hb hby at_213) (v := (1 : Int32)) (by decide) rfl ?_
      refine go_goto (q := 218) X120 hx (hb hby at_214) (by decide) (by decide) ?_
      refine go_istore (q := 220) X120 hx (hb hby at_218) (l' := #[.val (.int p0), .val (.int p1), .val (.int p2), .val (.int p3), .val (.int p4), .val (.int (4 : Int32)), .val (.int (p1 &&& (255 : Int32))), .val (.int (p2 &&& (255 : Int32))), .val (.int (p3 &&& (255 : Int32))), .val (.int (p4 &&& (255 : Int32))), .val (.ref ob103), .val (.ref ob113), .val (.int (1 : Int32))]) rfl rfl ?_
      refine go_aload (q := 222) X120 hx (hb hby at_220) (v := (.ref ob113)) rfl rfl rfl ?_
      have O123 : Old Z n0 h120 := (O119.keep K120 (allS fr113 all0))
      refine go_static (q := 225) X120 hx hZ hown (y := (⟨"com/example/harborspread/harborspread/Decimals", "isTooLong", "(Ljava/lang/String;)Z"⟩ : MethodName)) (w23 hw) (w24 hw) (w25 hw) (w26 hw) (by decide) e120 (b4_4 l Z a0 hw ob113 r_120 kb_120 zc (p1 &&& (255 : Int32)) (p2 &&& (255 : Int32)) (p3 &&& (255 : Int32)) (p4 &&& (255 : Int32)) h120 n0 O123 p120_1 p120_3 p120_2 p120_4 S_0 r_1) (argsL := [(.ref ob113)]) (rest := []) rfl (lenOf pd_12 rfl) rfl (by rw [hml]; rfl) (W := 0) (Nat.le_of_eq rfl) (hb hby at_222) (by decide) (by decide) (by decide) (by decide) rfl ?_
      have f125 : Arv Z h120 ob103 k103 .char (4 : Int32) [(.int (p1 &&& (255 : Int32))), (.int (p2 &&& (255 : Int32))), (.int (p3 &&& (255 : Int32))), (.int (p4 &&& (255 : Int32)))] (.int (0 : Int32)) := (f118.keep K120 (ninS ne_ob103_ob113 nin0))
      rintro T124 h124 _ L124 X124 e124 ⟨r_124, rfl, M124, K124, p124_0⟩
      have N124 := Fr.app N120 M124
      have H126 := H121.trans (CHr.keep K124 sf0 H121.1)
      refine go_iload (q := 227) X124 hx (hb hby at_225) (v := (1 : Int32)) rfl rfl ?_
      refine go_icmpN (q := 230) X124 hx (hb hby at_227) (XT.ii_ne_f (by have z := p124_0; (try simp only [own_b69] at z); rcases z with ⟨q, q2⟩ | ⟨q, q2⟩ <;> first | exact q | (exfalso; simp [c122] at q2))) rfl ?_
      refine go_iconst (q := 231) X124 hx (hb hby at_230) (v := (1 : Int32)) (by decide) rfl ?_
      refine go_goto (q := 235) X124 hx (hb hby at_231) (by decide) (by decide) ?_
      refine go_retIS X124 hx hS0 (Nat.zero_le _) hZ hEL H126 hh0 hret hlk e124 (hb hby at_235) (by simp) (by decide) (by decide) (by decide) ?_
      exact ⟨(by first | rfl | simp [c122] | simp_all), N124, (((((((((Keep.refl h0 []).ext E103).wr W105 (Or.inr sn103)).wr W107 (Or.inr sn103)).wr W109 (Or.inr sn103)).wr W111 (Or.inr sn103)).ext E113).trans K120 (allS (P := fun x => x ∈ [] ∨ h0.size ≤ x) (Or.inr sn113) all0)).trans K124 all0)⟩
    · refine go_icmpN (q := 174) X120 hx (hb hby at_171) (XT.ii_eq_f c122) rfl ?_
      refine go_iload (q := 176) X120 hx (hb hby at_174) (v := (4 : Int32)) rfl rfl ?_
      refine go_iconst (q := 177) X120 hx (hb hby at_176) (v := (1 : Int32)) (by decide) rfl ?_
      refine go_icmpN (q := 180) X120 hx (hb hby at_177) (XT.ii_le_f (by decide)) rfl ?_
      refine go_iload (q := 182) X120 hx (hb hby at_180) (v := (p2 &&& (255 : Int32))) rfl rfl ?_
      refine go_bipush (q := 184) X120 hx (hb hby at_182) (v := (69 : Int32)) (by decide) rfl ?_
      by_cases c127 : (p2 &&& (255 : Int32)) = (69 : Int32)
      · refine go_icmpY (q := 213) X120 hx (hb hby at_184) (XT.ii_eq_t c127) (by decide) (by decide) ?_
        refine go_iconst (q := 214) X120 hx (hb hby at_213) (v := (1 : Int32)) (by decide) rfl ?_
        refine go_goto (q := 218) X120 hx (hb hby at_214) (by decide) (by decide) ?_
        refine go_istore (q := 220) X120 hx (hb hby at_218) (l' := #[.val (.int p0), .val (.int p1), .val (.int p2), .val (.int p3), .val (.int p4), .val (.int (4 : Int32)), .val (.int (p1 &&& (255 : Int32))), .val (.int (p2 &&& (255 : Int32))), .val (.int (p3 &&& (255 : Int32))), .val (.int (p4 &&& (255 : Int32))), .val (.ref ob103), .val (.ref ob113), .val (.int (1 : Int32))]) rfl rfl ?_
        refine go_aload (q := 222) X120 hx (hb hby at_220) (v := (.ref ob113)) rfl rfl rfl ?_
        have O128 : Old Z n0 h120 := (O119.keep K120 (allS fr113 all0))
        refine go_static (q := 225) X120 hx hZ hown (y := (⟨"com/example/harborspread/harborspread/Decimals", "isTooLong", "(Ljava/lang/String;)Z"⟩ : MethodName)) (w23 hw) (w24 hw) (w25 hw) (w26 hw) (by decide) e120 (b4_4 l Z a0 hw ob113 r_120 kb_120 zc (p1 &&& (255 : Int32)) (p2 &&& (255 : Int32)) (p3 &&& (255 : Int32)) (p4 &&& (255 : Int32)) h120 n0 O128 p120_1 p120_3 p120_2 p120_4 S_0 r_1) (argsL := [(.ref ob113)]) (rest := []) rfl (lenOf pd_12 rfl) rfl (by rw [hml]; rfl) (W := 0) (Nat.le_of_eq rfl) (hb hby at_222) (by decide) (by decide) (by decide) (by decide) rfl ?_
        have f130 : Arv Z h120 ob103 k103 .char (4 : Int32) [(.int (p1 &&& (255 : Int32))), (.int (p2 &&& (255 : Int32))), (.int (p3 &&& (255 : Int32))), (.int (p4 &&& (255 : Int32)))] (.int (0 : Int32)) := (f118.keep K120 (ninS ne_ob103_ob113 nin0))
        rintro T129 h129 _ L129 X129 e129 ⟨r_129, rfl, M129, K129, p129_0⟩
        have N129 := Fr.app N120 M129
        have H131 := H121.trans (CHr.keep K129 sf0 H121.1)
        refine go_iload (q := 227) X129 hx (hb hby at_225) (v := (1 : Int32)) rfl rfl ?_
        refine go_icmpN (q := 230) X129 hx (hb hby at_227) (XT.ii_ne_f (by have z := p129_0; (try simp only [own_b69] at z); rcases z with ⟨q, q2⟩ | ⟨q, q2⟩ <;> first | exact q | (exfalso; simp [c122, c127] at q2))) rfl ?_
        refine go_iconst (q := 231) X129 hx (hb hby at_230) (v := (1 : Int32)) (by decide) rfl ?_
        refine go_goto (q := 235) X129 hx (hb hby at_231) (by decide) (by decide) ?_
        refine go_retIS X129 hx hS0 (Nat.zero_le _) hZ hEL H131 hh0 hret hlk e129 (hb hby at_235) (by simp) (by decide) (by decide) (by decide) ?_
        exact ⟨(by first | rfl | simp [c122, c127] | simp_all), N129, (((((((((Keep.refl h0 []).ext E103).wr W105 (Or.inr sn103)).wr W107 (Or.inr sn103)).wr W109 (Or.inr sn103)).wr W111 (Or.inr sn103)).ext E113).trans K120 (allS (P := fun x => x ∈ [] ∨ h0.size ≤ x) (Or.inr sn113) all0)).trans K129 all0)⟩
      · refine go_icmpN (q := 187) X120 hx (hb hby at_184) (XT.ii_eq_f c127) rfl ?_
        refine go_iload (q := 189) X120 hx (hb hby at_187) (v := (4 : Int32)) rfl rfl ?_
        refine go_iconst (q := 190) X120 hx (hb hby at_189) (v := (2 : Int32)) (by decide) rfl ?_
        refine go_icmpN (q := 193) X120 hx (hb hby at_190) (XT.ii_le_f (by decide)) rfl ?_
        refine go_iload (q := 195) X120 hx (hb hby at_193) (v := (p3 &&& (255 : Int32))) rfl rfl ?_
        refine go_bipush (q := 197) X120 hx (hb hby at_195) (v := (69 : Int32)) (by decide) rfl ?_
        by_cases c132 : (p3 &&& (255 : Int32)) = (69 : Int32)
        · refine go_icmpY (q := 213) X120 hx (hb hby at_197) (XT.ii_eq_t c132) (by decide) (by decide) ?_
          refine go_iconst (q := 214) X120 hx (hb hby at_213) (v := (1 : Int32)) (by decide) rfl ?_
          refine go_goto (q := 218) X120 hx (hb hby at_214) (by decide) (by decide) ?_
          refine go_istore (q := 220) X120 hx (hb hby at_218) (l' := #[.val (.int p0), .val (.int p1), .val (.int p2), .val (.int p3), .val (.int p4), .val (.int (4 : Int32)), .val (.int (p1 &&& (255 : Int32))), .val (.int (p2 &&& (255 : Int32))), .val (.int (p3 &&& (255 : Int32))), .val (.int (p4 &&& (255 : Int32))), .val (.ref ob103), .val (.ref ob113), .val (.int (1 : Int32))]) rfl rfl ?_
          refine go_aload (q := 222) X120 hx (hb hby at_220) (v := (.ref ob113)) rfl rfl rfl ?_
          have O133 : Old Z n0 h120 := (O119.keep K120 (allS fr113 all0))
          refine go_static (q := 225) X120 hx hZ hown (y := (⟨"com/example/harborspread/harborspread/Decimals", "isTooLong", "(Ljava/lang/String;)Z"⟩ : MethodName)) (w23 hw) (w24 hw) (w25 hw) (w26 hw) (by decide) e120 (b4_4 l Z a0 hw ob113 r_120 kb_120 zc (p1 &&& (255 : Int32)) (p2 &&& (255 : Int32)) (p3 &&& (255 : Int32)) (p4 &&& (255 : Int32)) h120 n0 O133 p120_1 p120_3 p120_2 p120_4 S_0 r_1) (argsL := [(.ref ob113)]) (rest := []) rfl (lenOf pd_12 rfl) rfl (by rw [hml]; rfl) (W := 0) (Nat.le_of_eq rfl) (hb hby at_222) (by decide) (by decide) (by decide) (by decide) rfl ?_
          have f135 : Arv Z h120 ob103 k103 .char (4 : Int32) [(.int (p1 &&& (255 : Int32))), (.int (p2 &&& (255 : Int32))), (.int (p3 &&& (255 : Int32))), (.int (p4 &&& (255 : Int32)))] (.int (0 : Int32)) := (f118.keep K120 (ninS ne_ob103_ob113 nin0))
          rintro T134 h134 _ L134 X134 e134 ⟨r_134, rfl, M134, K134, p134_0⟩
          have N134 := Fr.app N120 M134
          have H136 := H121.trans (CHr.keep K134 sf0 H121.1)
          refine go_iload (q := 227) X134 hx (hb hby at_225) (v := (1 : Int32)) rfl rfl ?_
          refine go_icmpN (q := 230) X134 hx (hb hby at_227) (XT.ii_ne_f (by have z := p134_0; (try simp only [own_b69] at z); rcases z with ⟨q, q2⟩ | ⟨q, q2⟩ <;> first | exact q | (exfalso; simp [c122, c127, c132] at q2))) rfl ?_
          refine go_iconst (q := 231) X134 hx (hb hby at_230) (v := (1 : Int32)) (by decide) rfl ?_
          refine go_goto (q := 235) X134 hx (hb hby at_231) (by decide) (by decide) ?_
          refine go_retIS X134 hx hS0 (Nat.zero_le _) hZ hEL H136 hh0 hret hlk e134 (hb hby at_235) (by simp) (by decide) (by decide) (by decide) ?_
          exact ⟨(by first | rfl | simp [c122, c127, c132] | simp_all), N134, (((((((((Keep.refl h0 []).ext E103).wr W105 (Or.inr sn103)).wr W107 (Or.inr sn103)).wr W109 (Or.inr sn103)).wr W111 (Or.inr sn103)).ext E113).trans K120 (allS (P := fun x => x ∈ [] ∨ h0.size ≤ x) (Or.inr sn113) all0)).trans K134 all0)⟩
        · refine go_icmpN (q := 200) X120 hx (hb hby at_197) (XT.ii_eq_f c132) rfl ?_
          refine go_iload (q := 202) X120 hx (hb hby at_200) (v := (4 : Int32)) rfl rfl ?_
          refine go_iconst (q := 203) X120 hx (hb hby at_202) (v := (3 : Int32)) (by decide) rfl ?_
          refine go_icmpN (q := 206) X120 hx (hb hby at_203) (XT.ii_le_f (by decide)) rfl ?_
          refine go_iload (q := 208) X120 hx (hb hby at_206) (v := (p4 &&& (255 : Int32))) rfl rfl ?_
          refine go_bipush (q := 210) X120 hx (hb hby at_208) (v := (69 : Int32)) (by decide) rfl ?_
          by_cases c137 : (p4 &&& (255 : Int32)) = (69 : Int32)
          · refine go_icmpN (q := 213) X120 hx (hb hby at_210) (XT.ii_ne_f c137) rfl ?_
            refine go_iconst (q := 214) X120 hx (hb hby at_213) (v := (1 : Int32)) (by decide) rfl ?_
            refine go_goto (q := 218) X120 hx (hb hby at_214) (by decide) (by decide) ?_
            refine go_istore (q := 220) X120 hx (hb hby at_218) (l' := #[.val (.int p0), .val (.int p1), .val (.int p2), .val (.int p3), .val (.int p4), .val (.int (4 : Int32)), .val (.int (p1 &&& (255 : Int32))), .val (.int (p2 &&& (255 : Int32))), .val (.int (p3 &&& (255 : Int32))), .val (.int (p4 &&& (255 : Int32))), .val (.ref ob103), .val (.ref ob113), .val (.int (1 : Int32))]) rfl rfl ?_
            refine go_aload (q := 222) X120 hx (hb hby at_220) (v := (.ref ob113)) rfl rfl rfl ?_
            have O138 : Old Z n0 h120 := (O119.keep K120 (allS fr113 all0))
            refine go_static (q := 225) X120 hx hZ hown (y := (⟨"com/example/harborspread/harborspread/Decimals", "isTooLong", "(Ljava/lang/String;)Z"⟩ : MethodName)) (w23 hw) (w24 hw) (w25 hw) (w26 hw) (by decide) e120 (b4_4 l Z a0 hw ob113 r_120 kb_120 zc (p1 &&& (255 : Int32)) (p2 &&& (255 : Int32)) (p3 &&& (255 : Int32)) (p4 &&& (255 : Int32)) h120 n0 O138 p120_1 p120_3 p120_2 p120_4 S_0 r_1) (argsL := [(.ref ob113)]) (rest := []) rfl (lenOf pd_12 rfl) rfl (by rw [hml]; rfl) (W := 0) (Nat.le_of_eq rfl) (hb hby at_222) (by decide) (by decide) (by decide) (by decide) rfl ?_
            have f140 : Arv Z h120 ob103 k103 .char (4 : Int32) [(.int (p1 &&& (255 : Int32))), (.int (p2 &&& (255 : Int32))), (.int (p3 &&& (255 : Int32))), (.int (p4 &&& (255 : Int32)))] (.int (0 : Int32)) := (f118.keep K120 (ninS ne_ob103_ob113 nin0))
            rintro T139 h139 _ L139 X139 e139 ⟨r_139, rfl, M139, K139, p139_0⟩
            have N139 := Fr.app N120 M139
            have H141 := H121.trans (CHr.keep K139 sf0 H121.1)
            refine go_iload (q := 227) X139 hx (hb hby at_225) (v := (1 : Int32)) rfl rfl ?_
            refine go_icmpN (q := 230) X139 hx (hb hby at_227) (XT.ii_ne_f (by have z := p139_0; (try simp only [own_b69] at z); rcases z with ⟨q, q2⟩ | ⟨q, q2⟩ <;> first | exact q | (exfalso; simp [c122, c127, c132, c137] at q2))) rfl ?_
            refine go_iconst (q := 231) X139 hx (hb hby at_230) (v := (1 : Int32)) (by decide) rfl ?_
            refine go_goto (q := 235) X139 hx (hb hby at_231) (by decide) (by decide) ?_
            refine go_retIS X139 hx hS0 (Nat.zero_le _) hZ hEL H141 hh0 hret hlk e139 (hb hby at_235) (by simp) (by decide) (by decide) (by decide) ?_
            exact ⟨(by first | rfl | simp [c122, c127, c132, c137] | simp_all), N139, (((((((((Keep.refl h0 []).ext E103).wr W105 (Or.inr sn103)).wr W107 (Or.inr sn103)).wr W109 (Or.inr sn103)).wr W111 (Or.inr sn103)).ext E113).trans K120 (allS (P := fun x => x ∈ [] ∨ h0.size ≤ x) (Or.inr sn113) all0)).trans K139 all0)⟩
          · refine go_icmpY (q := 217) X120 hx (hb hby at_210) (XT.ii_ne_t c137) (by decide) (by decide) ?_
            refine go_iconst (q := 218) X120 hx (hb hby at_217) (v := (0 : Int32)) (by decide) rfl ?_
            refine go_istore (q := 220) X120 hx (hb hby at_218) (l' := #[.val (.int p0), .val (.int p1), .val (.int p2), .val (.int p3), .val (.int p4), .val (.int (4 : Int32)), .val (.int (p1 &&& (255 : Int32))), .val (.int (p2 &&& (255 : Int32))), .val (.int (p3 &&& (255 : Int32))), .val (.int (p4 &&& (255 : Int32))), .val (.ref ob103), .val (.ref ob113), .val (.int (0 : Int32))]) rfl rfl ?_
            refine go_aload (q := 222) X120 hx (hb hby at_220) (v := (.ref ob113)) rfl rfl rfl ?_
            have O142 : Old Z n0 h120 := (O119.keep K120 (allS fr113 all0))
            refine go_static (q := 225) X120 hx hZ hown (y := (⟨"com/example/harborspread/harborspread/Decimals", "isTooLong", "(Ljava/lang/String;)Z"⟩ : MethodName)) (w23 hw) (w24 hw) (w25 hw) (w26 hw) (by decide) e120 (b4_4 l Z a0 hw ob113 r_120 kb_120 zc (p1 &&& (255 : Int32)) (p2 &&& (255 : Int32)) (p3 &&& (255 : Int32)) (p4 &&& (255 : Int32)) h120 n0 O142 p120_1 p120_3 p120_2 p120_4 S_0 r_1) (argsL := [(.ref ob113)]) (rest := []) rfl (lenOf pd_12 rfl) rfl (by rw [hml]; rfl) (W := 0) (Nat.le_of_eq rfl) (hb hby at_222) (by decide) (by decide) (by decide) (by decide) rfl ?_
            have f144 : Arv Z h120 ob103 k103 .char (4 : Int32) [(.int (p1 &&& (255 : Int32))), (.int (p2 &&& (255 : Int32))), (.int (p3 &&& (255 : Int32))), (.int (p4 &&& (255 : Int32)))] (.int (0 : Int32)) := (f118.keep K120 (ninS ne_ob103_ob113 nin0))
            rintro T143 h143 _ L143 X143 e143 ⟨r_143, rfl, M143, K143, p143_0⟩
            have N143 := Fr.app N120 M143
            have H145 := H121.trans (CHr.keep K143 sf0 H121.1)
            refine go_iload (q := 227) X143 hx (hb hby at_225) (v := (0 : Int32)) rfl rfl ?_
            refine go_icmpN (q := 230) X143 hx (hb hby at_227) (XT.ii_ne_f (by have z := p143_0; (try simp only [own_b69] at z); rcases z with ⟨q, q2⟩ | ⟨q, q2⟩ <;> first | exact q | (exfalso; simp [c122, c127, c132, c137] at q2))) rfl ?_
            refine go_iconst (q := 231) X143 hx (hb hby at_230) (v := (1 : Int32)) (by decide) rfl ?_
            refine go_goto (q := 235) X143 hx (hb hby at_231) (by decide) (by decide) ?_
            refine go_retIS X143 hx hS0 (Nat.zero_le _) hZ hEL H145 hh0 hret hlk e143 (hb hby at_235) (by simp) (by decide) (by decide) (by decide) ?_
            exact ⟨(by first | rfl | simp [c122, c127, c132, c137] | simp_all), N143, (((((((((Keep.refl h0 []).ext E103).wr W105 (Or.inr sn103)).wr W107 (Or.inr sn103)).wr W109 (Or.inr sn103)).wr W111 (Or.inr sn103)).ext E113).trans K120 (allS (P := fun x => x ∈ [] ∨ h0.size ≤ x) (Or.inr sn113) all0)).trans K143 all0)⟩
set_option maxRecDepth 65536 in
set_option maxHeartbeats 40000000 in
theorem comes_1 {Post : Tables → Env → Array Value → State → Outcome → State → Prop} (hpost : ∀ tb e args s v u, (limb_1_1.after args s (.returned v) u = true ∧ limb_1_2.after args s (.returned v) u = true ∧ True) → ReturnedEndW s (.returned v) u (Jvm.fieldLocs frame_1_writes args s ++ Jvm.arrayLocs frame_1_arrays args s ++ Jvm.staticLocs frame_1_statics s) 16 1152 → Post tb e args s (.returned v) u) :
    ArmFor flags0 classFile x code maxLocals ret World_1 tables_1 room_1 Calls_1 rest_1 Pre_1 Post := by
  intro l hfl _ _ p e ha hc hk s m args below hf hA hF happ hP
  obtain ⟨hcalls, hrest, hpre⟩ := hP
  obtain ⟨-, -, -, hnamed, -, -, -, hat⟩ := (Spec.applies_iff hf).mp happ
  obtain ⟨hg, hn⟩ := and_e (Cond.before_iff.mp (show (Jvm.Cond.and given_1 narrow_1).before args s = true from hpre))
  obtain ⟨hct, hg⟩ := and_e hg
  obtain ⟨w0, w1, w2, w3, w4, rfl⟩ : ∃ w0 w1 w2 w3 w4 : Value, args = #[w0, w1, w2, w3, w4] := by
    have hs : args.size = 5 := by simpa [Cond.value, given_1] using hct
    obtain ⟨L⟩ := args
    match L, hs with
    | [w0, w1, w2, w3, w4], _ => exact ⟨w0, w1, w2, w3, w4, rfl⟩
  have hw := fun d (hd : d ∈ tables_1) => atoms_spec (ws := Jvm.Cond.code x code maxLocals ret :: tables_1) hat d (List.mem_cons_of_mem _ hd)
  have hfit : Fit s := fun {y c} hc i hi => by
    obtain ⟨ha, rfl⟩ := Array.getElem?_eq_some_iff.mp hc
    have q := List.all_eq_true.mp ((Array.all_eq_true_iff_forall_mem.mp hF) _ (Array.getElem_mem ha)) i (List.mem_range.mpr hi)
    simpa [Array.getElem?_eq_getElem hi] using q
  obtain ⟨hg0, hg⟩ := and_e hg
  obtain ⟨i0, q0⟩ := is_v hg0
  obtain rfl : w0 = (.int i0) := Option.some.inj q0
  obtain ⟨hg1, hg⟩ := and_e hg
  obtain ⟨i1, q1⟩ := is_v hg1
  obtain rfl : w1 = (.int i1) := Option.some.inj q1
  obtain ⟨hg2, hg⟩ := and_e hg
  obtain ⟨i2, q2⟩ := is_v hg2
  obtain rfl : w2 = (.int i2) := Option.some.inj q2
  obtain ⟨hg3, hg⟩ := and_e hg
  obtain ⟨i3, q3⟩ := is_v hg3
  obtain rfl : w3 = (.int i3) := Option.some.inj q3
  obtain ⟨i4, q4⟩ := is_v hg
  obtain rfl : w4 = (.int i4) := Option.some.inj q4
  obtain ⟨hsets, hown0⟩ := atoms_of _ (rest_1_c_eq ▸ (show rest_1_c.before _ s = true from hrest))
  obtain ⟨x2, v2⟩ := is_v (Cond.before_iff.mp (hsets _ (List.mem_of_getElem? (i := 1) rfl)))
  have S3 : Sta s s.heap "java/lang/String" "COMPACT_STRINGS" "Z" (.int x2) := Sta.start v2 (Or.inl (hsets _ (List.mem_of_getElem? (i := 0) rfl)))
  have r4 : ¬ (x2 = (0 : Int32)) := gotF (Cond.eq_ints v2 (Term.int_eval (0))) (not_v (Cond.before_iff.mp (hsets _ (List.mem_of_getElem? (i := 2) rfl))))
  obtain ⟨x10, v10, r10⟩ := isR_v (Cond.before_iff.mp (hsets _ (List.mem_of_getElem? (i := 8) rfl)))
  have S11 : Sta s s.heap "jdk/internal/util/Preconditions" "SIOOBE_FORMATTER" "Ljava/util/function/BiFunction;" x10 := Sta.start v10 (Or.inl (hsets _ (List.mem_of_getElem? (i := 7) rfl)))
  have hheld : ∀ p ∈ own_EL, Jvm.Lit.constHeld s p.1 p.2 := fun p hp => hcalls.1 p (by simpa [own_EL, consts_1] using hp)
  have hC : CHv s own_EL s.vm s.heap := CHv.start (own_hEL hw) hheld (Cond.before_iff.mpr (by rw [show Jvm.Lit.compactW = _ from rfl]; exact (Cond.before_iff.mp (hsets _ (List.mem_of_getElem? (i := 2) rfl))))) ((own_wS hw) _ (by simp [Bundle.stringAtoms])) ((own_wS hw) _ (by simp [Bundle.stringAtoms, Bundle.sN]))
  obtain ⟨n, o, h1, h2, h3, _, L, rfl, ⟨rfl, N, -⟩, -, hq⟩ := b0 l s _ hw i0 i1 i2 i3 i4 x2 s.heap s.heap.size (Old.start s) S3 r4 tables_1 p e ha hc hk s m _ below hf ((Spec.applies_iff_loose hf).mp happ).1 ⟨rfl, State.Warmed39.refl s, rfl, hC, all0⟩ trivial
  refine ⟨n, _, h1, h2, h3, hpost _ _ _ _ _ _ ⟨Cond.after_iff.mpr rfl, Cond.after_iff.mpr (eq_i res_at (Term.int_eval (1)) rfl), trivial⟩ ⟨hq.1, hq.2.1, hq.2.2.1, (hq.2.2.2.sift fun y hy => Or.inr (N y hy)).mono (by decide) (by decide)⟩⟩
theorem main_1_1 : Claimed_1_1 := comes_1 fun _ _ _ _ _ _ h hF => ⟨h.1, hF⟩
theorem main_1_2 : Claimed_1_2 := comes_1 fun _ _ _ _ _ _ h hF => ⟨h.2.1, hF⟩

end Jvm.Pilot.@@N@@
namespace Jvm.Pilot.@@N@@
open Jvm Jvm.ClassFile Sem Op Lib Jvm.Free Jvm.Stand Jvm.Pilot.@@N@@.Jvm.D
/-! MADE BY PROGRAM (witnessworld.py) out of the Statement's table words and the real class files: 21 classes; the members and pool entries that the words name. The judged class is class 1, her method 1. -/
namespace start1
open Jvm.ClassFile
def u (s : String) : CpInfo := .utf8 (stringToUtf16 s)
/-- a pool by its gaps: so many unusable entries, then the entry; so many at the end -/
def gap : Nat → List CpInfo → List CpInfo
  | 0, r => r
  | n + 1, r => .unusable :: gap n r
def poolList (es : List (Nat × CpInfo)) (last : Nat) : List CpInfo := es.foldr (fun e r => gap e.1 (e.2 :: r)) (gap last [])
def pool (es : List (Nat × CpInfo)) (last : Nat) : Array CpInfo := ⟨poolList es last⟩
def fileOf (pool : Array CpInfo) (this : Nat) (attrs : Array Attribute := #[]) (ms : Array MethodInfo := #[]) (fl : Nat := 33) (sup : Nat := 0) (ifs : Array Nat := #[]) (fds : Array FieldInfo := #[]) : ClassFile where
  minorVersion := 0
  majorVersion := 65
  constantPool := pool
  accessFlags := fl
  thisClass := this
  superClass := sup
  interfaces := ifs
  fields := fds
  methods := ms
  attributes := attrs
def plain (name : String) (sup : Option ClassId) : Class where
  name := name
  kind := .ordinary
  loader := none
  accessFlags := 33
  super := sup
  interfaces := #[]
  cf := none
  fields := #[]
  methods := #[]
  instanceTypes := #[]
  staticTypes := #[]
  resolved := #[]
  callSites := []
  init := .initialized
  statics := none
  mirror := none

def pool0 : Array CpInfo := pool [(5, u "<init>"), (0, u "()V"), (1, .class_ 10), (1, u "java/lang/Object")] 113

def k0c0 : Code := { maxStack := 0, maxLocals := 1, code := object_method_1_code, exceptionTable := #[], attributes := #[] }
def k0m0 : Method := { name := "<init>", desc := "()V", sig := { parameters := [], returnType := none }, accessFlags := 1, code := some k0c0 }
/-- java/lang/Object -/
def k0 : Class := { plain "java/lang/Object" none with
  accessFlags := 33
  interfaces := #[]
  cf := some (fileOf pool0 8 #[] #[{ accessFlags := 1, nameIndex := 5, descriptorIndex := 6, attributes := #[] }] 33 0 #[] #[])
  fields := #[]
  methods := #[k0m0]
  instanceTypes := #[]
  staticTypes := #[]
  resolved := Array.replicate 124 none
  statics := none }

def pool1 : Array CpInfo := pool [(2, .class_ 4), (1, u "java/lang/Object"), (0, u "<init>"), (0, u "()V"), (0, .integer 2147483647), (0, .class_ 9), (0, u "java/lang/String"), (0, .methodref 8 11), (0, .nameAndType 5 12), (0, u "([C)V"), (0, .methodref 14 15), (0, .class_ 16), (0, .nameAndType 17 18), (0, u "com/example/harborspread/harborspread/Decimals"), (0, u "isTooLong"), (0, u "(Ljava/lang/String;)Z"), (0, .class_ 20), (0, u "com/example/harborspread/harborspread/DecimalsIsTooLongPinLaw"), (2, u "law"), (0, u "(IIIII)Z")] 5

def k1m0 : Method := { name := "<init>", desc := "()V", sig := { parameters := [], returnType := none }, accessFlags := 2, code := none }
def k1c1 : Code := { maxStack := 4, maxLocals := 13, code := code, exceptionTable := #[], attributes := #[] }
def k1m1 : Method := { name := "law", desc := "(IIIII)Z", sig := { parameters := [.int, .int, .int, .int, .int], returnType := some .boolean }, accessFlags := 9, code := some k1c1 }
/-- com/example/harborspread/harborspread/DecimalsIsTooLongPinLaw -/
def k1 : Class := { plain "com/example/harborspread/harborspread/DecimalsIsTooLongPinLaw" (some 0) with
  accessFlags := 49
  interfaces := #[]
  cf := some (fileOf pool1 19 #[] #[{ accessFlags := 2, nameIndex := 5, descriptorIndex := 6, attributes := #[] }, { accessFlags := 9, nameIndex := 23, descriptorIndex := 24, attributes := #[] }] 49 2 #[] #[])
  fields := #[]
  methods := #[k1m0, k1m1]
  instanceTypes := #[]
  staticTypes := #[]
  resolved := Array.replicate 30 none
  statics := none }

def pool2 : Array CpInfo := pool [(1, .class_ 2), (0, u "java/io/Serializable"), (0, .class_ 4), (0, u "java/lang/Object")] 2

/-- java/io/Serializable -/
def k2 : Class := { plain "java/io/Serializable" (some 0) with
  accessFlags := 1537
  interfaces := #[]
  cf := some (fileOf pool2 1 #[] #[] 1537 3 #[] #[])
  fields := #[]
  methods := #[]
  instanceTypes := #[]
  staticTypes := #[]
  resolved := Array.replicate 7 none
  statics := none }

def pool3 : Array CpInfo := pool [(1, .class_ 2), (0, u "java/lang/Comparable"), (0, .class_ 4), (0, u "java/lang/Object")] 7

/-- java/lang/Comparable -/
def k3 : Class := { plain "java/lang/Comparable" (some 0) with
  accessFlags := 1537
  interfaces := #[]
  cf := some (fileOf pool3 1 #[] #[] 1537 3 #[] #[])
  fields := #[]
  methods := #[]
  instanceTypes := #[]
  staticTypes := #[]
  resolved := Array.replicate 12 none
  statics := none }

def pool4 : Array CpInfo := pool [(2, .class_ 4), (1, u "java/lang/CharSequence"), (42, .class_ 48), (0, u "java/lang/CharSequence$1CodePointIterator"), (10, .class_ 60), (0, u "java/lang/CharSequence$1CharIterator"), (5, .class_ 67), (0, u "java/lang/Object")] 63

/-- java/lang/CharSequence -/
def k4 : Class := { plain "java/lang/CharSequence" (some 0) with
  accessFlags := 1537
  interfaces := #[]
  cf := some (fileOf pool4 2 #[.nestMembers #[47, 59]] #[] 1537 66 #[] #[])
  fields := #[]
  methods := #[]
  instanceTypes := #[]
  staticTypes := #[]
  resolved := Array.replicate 131 none
  statics := none }

def pool5 : Array CpInfo := pool [(1, .class_ 2), (0, u "java/lang/constant/Constable"), (0, .class_ 4), (0, u "java/lang/Object")] 6

/-- java/lang/constant/Constable -/
def k5 : Class := { plain "java/lang/constant/Constable" (some 0) with
  accessFlags := 1537
  interfaces := #[]
  cf := some (fileOf pool5 1 #[] #[] 1537 3 #[] #[])
  fields := #[]
  methods := #[]
  instanceTypes := #[]
  staticTypes := #[]
  resolved := Array.replicate 11 none
  statics := none }

def pool6 : Array CpInfo := pool [(1, .class_ 2), (0, u "java/lang/constant/ConstantDesc"), (0, .class_ 4), (0, u "java/lang/Object")] 32

/-- java/lang/constant/ConstantDesc -/
def k6 : Class := { plain "java/lang/constant/ConstantDesc" (some 0) with
  accessFlags := 1537
  interfaces := #[]
  cf := some (fileOf pool6 1 #[] #[] 1537 3 #[] #[])
  fields := #[]
  methods := #[]
  instanceTypes := #[]
  staticTypes := #[]
  resolved := Array.replicate 37 none
  statics := none }

def pool7 : Array CpInfo := pool [(1, .methodref 2 3), (0, .class_ 4), (0, .nameAndType 5 6), (0, u "java/lang/Object"), (0, u "<init>"), (0, u "()V"), (0, .string 8), (0, u ""), (0, .fieldref 10 11), (0, .class_ 12), (0, .nameAndType 13 14), (0, u "java/lang/String"), (0, u "value"), (0, u "[B"), (0, .fieldref 10 16), (0, .nameAndType 17 18), (0, u "coder"), (0, u "B"), (2, u "hash"), (0, u "I"), (2, u "hashIsZero"), (0, u "Z"), (0, .methodref 10 28), (0, .nameAndType 5 29), (0, u "([CIILjava/lang/Void;)V"), (8, .fieldref 10 39), (0, .nameAndType 40 26), (0, u "COMPACT_STRINGS"), (1, .class_ 44), (1, u "java/lang/StringUTF16"), (0, u "compress"), (1, .methodref 42 48), (0, .nameAndType 49 50), (0, u "coderFromArrayLen"), (0, u "([BI)B"), (56, .class_ 109), (1, u "java/lang/StringLatin1"), (32, u "()Z"), (34, .methodref 42 178), (0, .nameAndType 45 179), (0, u "([CII)[B"), (154, u "()I"), (0, .methodref 10 336), (0, .nameAndType 17 337), (0, u "()B"), (154, .methodref 10 493), (0, .nameAndType 494 142), (0, u "isLatin1"), (10, .methodref 10 506), (0, .nameAndType 507 334), (0, u "length"), (67, .class_ 576), (0, u "java/lang/CharSequence"), (22, u "CASE_INSENSITIVE_ORDER"), (0, u "Ljava/util/Comparator;"), (32, .methodref 10 634), (0, .nameAndType 635 636), (0, u "indexOf"), (0, u "(II)I"), (0, .methodref 107 638), (0, .nameAndType 635 639), (0, u "([BIII)I"), (125, u "(I)I"), (244, u "([C)V"), (90, u "serialPersistentFields"), (0, u "[Ljava/io/ObjectStreamField;"), (0, .class_ 1104), (0, u "java/lang/String$CaseInsensitiveComparator"), (1, .class_ 1107), (0, u "java/io/Serializable"), (0, .class_ 1109), (0, u "java/lang/Comparable"), (0, .class_ 1111), (0, u "java/lang/constant/Constable"), (0, .class_ 1113), (0, u "java/lang/constant/ConstantDesc"), (2, u "serialVersionUID"), (0, u "J"), (3, u "REPL"), (0, u "C"), (2, u "LATIN1"), (1, u "UTF16")] 323

def k7m0 : Method := { name := "<init>", desc := "()V", sig := { parameters := [], returnType := none }, accessFlags := 1, code := none }
def k7c1 : Code := { maxStack := 5, maxLocals := 2, code := jdk_42_method_3_code, exceptionTable := #[], attributes := #[] }
def k7m1 : Method := { name := "<init>", desc := "([C)V", sig := { parameters := [(.array .char)], returnType := none }, accessFlags := 1, code := some k7c1 }
def k7c2 : Code := { maxStack := 2, maxLocals := 1, code := jdk_42_method_54_code, exceptionTable := #[], attributes := #[] }
def k7m2 : Method := { name := "length", desc := "()I", sig := { parameters := [], returnType := some .int }, accessFlags := 1, code := some k7c2 }
def k7c3 : Code := { maxStack := 3, maxLocals := 2, code := jdk_42_method_79_code, exceptionTable := #[], attributes := #[] }
def k7m3 : Method := { name := "indexOf", desc := "(I)I", sig := { parameters := [.int], returnType := some .int }, accessFlags := 1, code := some k7c3 }
def k7c4 : Code := { maxStack := 4, maxLocals := 3, code := jdk_42_method_80_code, exceptionTable := #[], attributes := #[] }
def k7m4 : Method := { name := "indexOf", desc := "(II)I", sig := { parameters := [.int, .int], returnType := some .int }, accessFlags := 1, code := some k7c4 }
def k7c5 : Code := { maxStack := 4, maxLocals := 6, code := jdk_42_method_149_code, exceptionTable := #[], attributes := #[] }
def k7m5 : Method := { name := "<init>", desc := "([CIILjava/lang/Void;)V", sig := { parameters := [(.array .char), .int, .int, (.object "java/lang/Void")], returnType := none }, accessFlags := 2, code := some k7c5 }
def k7c6 : Code := { maxStack := 1, maxLocals := 1, code := jdk_42_method_152_code, exceptionTable := #[], attributes := #[] }
def k7m6 : Method := { name := "coder", desc := "()B", sig := { parameters := [], returnType := some .byte }, accessFlags := 0, code := some k7c6 }
def k7c7 : Code := { maxStack := 1, maxLocals := 1, code := jdk_42_method_154_code, exceptionTable := #[], attributes := #[] }
def k7m7 : Method := { name := "isLatin1", desc := "()Z", sig := { parameters := [], returnType := some .boolean }, accessFlags := 0, code := some k7c7 }
/-- java/lang/String -/
def k7 : Class := { plain "java/lang/String" (some 0) with
  accessFlags := 49
  interfaces := #[2, 3, 4, 5, 6]
  cf := some (fileOf pool7 10 #[.nestMembers #[1103]] #[{ accessFlags := 1, nameIndex := 5, descriptorIndex := 6, attributes := #[] }, { accessFlags := 1, nameIndex := 5, descriptorIndex := 1010, attributes := #[] }, { accessFlags := 1, nameIndex := 507, descriptorIndex := 334, attributes := #[] }, { accessFlags := 1, nameIndex := 635, descriptorIndex := 765, attributes := #[] }, { accessFlags := 1, nameIndex := 635, descriptorIndex := 636, attributes := #[] }, { accessFlags := 2, nameIndex := 5, descriptorIndex := 29, attributes := #[] }, { accessFlags := 0, nameIndex := 17, descriptorIndex := 337, attributes := #[] }, { accessFlags := 0, nameIndex := 494, descriptorIndex := 142, attributes := #[] }] 49 2 #[1106, 1108, 575, 1110, 1112] #[{ accessFlags := 18, nameIndex := 13, descriptorIndex := 14, attributes := #[] }, { accessFlags := 18, nameIndex := 17, descriptorIndex := 18, attributes := #[] }, { accessFlags := 2, nameIndex := 21, descriptorIndex := 22, attributes := #[] }, { accessFlags := 2, nameIndex := 25, descriptorIndex := 26, attributes := #[] }, { accessFlags := 26, nameIndex := 1116, descriptorIndex := 1117, attributes := #[] }, { accessFlags := 24, nameIndex := 40, descriptorIndex := 26, attributes := #[] }, { accessFlags := 26, nameIndex := 1101, descriptorIndex := 1102, attributes := #[] }, { accessFlags := 26, nameIndex := 1121, descriptorIndex := 1122, attributes := #[] }, { accessFlags := 25, nameIndex := 599, descriptorIndex := 600, attributes := #[] }, { accessFlags := 24, nameIndex := 1125, descriptorIndex := 18, attributes := #[] }, { accessFlags := 24, nameIndex := 1127, descriptorIndex := 18, attributes := #[] }])
  fields := #[{ name := "value", type := (.array .byte), accessFlags := 18, slot := 0, constantValue := 0 }, { name := "coder", type := .byte, accessFlags := 18, slot := 1, constantValue := 0 }, { name := "hash", type := .int, accessFlags := 2, slot := 2, constantValue := 0 }, { name := "hashIsZero", type := .boolean, accessFlags := 2, slot := 3, constantValue := 0 }, { name := "serialVersionUID", type := .long, accessFlags := 26, slot := 0, constantValue := 0 }, { name := "COMPACT_STRINGS", type := .boolean, accessFlags := 24, slot := 1, constantValue := 0 }, { name := "serialPersistentFields", type := (.array (.object "java/io/ObjectStreamField")), accessFlags := 26, slot := 2, constantValue := 0 }, { name := "REPL", type := .char, accessFlags := 26, slot := 3, constantValue := 0 }, { name := "CASE_INSENSITIVE_ORDER", type := (.object "java/util/Comparator"), accessFlags := 25, slot := 4, constantValue := 0 }, { name := "LATIN1", type := .byte, accessFlags := 24, slot := 5, constantValue := 0 }, { name := "UTF16", type := .byte, accessFlags := 24, slot := 6, constantValue := 0 }]
  methods := #[k7m0, k7m1, k7m2, k7m3, k7m4, k7m5, k7m6, k7m7]
  instanceTypes := #[(.array .byte), .byte, .int, .boolean]
  staticTypes := #[.long, .boolean, (.array (.object "java/io/ObjectStreamField")), .char, (.object "java/util/Comparator"), .byte, .byte]
  resolved := Array.replicate 1451 none
  statics := some 0 }

def pool8 : Array CpInfo := pool [(1, .class_ 2), (0, u "com/example/harborspread/harborspread/Decimals"), (1, .class_ 6), (1, u "java/lang/Object"), (0, u "<init>"), (0, u "()V"), (24, .methodref 34 35), (0, .class_ 36), (0, .nameAndType 37 38), (0, u "java/lang/String"), (0, u "indexOf"), (0, u "(I)I"), (43, u "(Ljava/lang/String;)Z"), (62, u "READ_AT_ONCE"), (0, u "I"), (2, u "LONG_DIGITS"), (1, u "WRITTEN_ZEROS"), (1, u "TOO_LONG"), (0, u "Ljava/lang/String;"), (7, u "isTooLong")] 49

def k8m0 : Method := { name := "<init>", desc := "()V", sig := { parameters := [], returnType := none }, accessFlags := 2, code := none }
def k8c1 : Code := { maxStack := 2, maxLocals := 1, code := prog_21_method_3_code, exceptionTable := #[], attributes := #[] }
def k8m1 : Method := { name := "isTooLong", desc := "(Ljava/lang/String;)Z", sig := { parameters := [(.object "java/lang/String")], returnType := some .boolean }, accessFlags := 8, code := some k8c1 }
/-- com/example/harborspread/harborspread/Decimals -/
def k8 : Class := { plain "com/example/harborspread/harborspread/Decimals" (some 0) with
  accessFlags := 48
  interfaces := #[]
  cf := some (fileOf pool8 1 #[] #[{ accessFlags := 2, nameIndex := 7, descriptorIndex := 8, attributes := #[] }, { accessFlags := 8, nameIndex := 162, descriptorIndex := 82, attributes := #[] }] 48 4 #[] #[{ accessFlags := 26, nameIndex := 145, descriptorIndex := 146, attributes := #[] }, { accessFlags := 26, nameIndex := 149, descriptorIndex := 146, attributes := #[] }, { accessFlags := 26, nameIndex := 151, descriptorIndex := 146, attributes := #[] }, { accessFlags := 24, nameIndex := 153, descriptorIndex := 154, attributes := #[] }])
  fields := #[{ name := "READ_AT_ONCE", type := .int, accessFlags := 26, slot := 0, constantValue := 0 }, { name := "LONG_DIGITS", type := .int, accessFlags := 26, slot := 1, constantValue := 0 }, { name := "WRITTEN_ZEROS", type := .int, accessFlags := 26, slot := 2, constantValue := 0 }, { name := "TOO_LONG", type := (.object "java/lang/String"), accessFlags := 24, slot := 3, constantValue := 0 }]
  methods := #[k8m0, k8m1]
  instanceTypes := #[]
  staticTypes := #[.int, .int, .int, (.object "java/lang/String")]
  resolved := Array.replicate 212 none
  statics := none }

def pool9 : Array CpInfo := pool [(4, .class_ 6), (1, u "java/lang/Object"), (0, u "<init>"), (0, u "()V"), (5, .class_ 16), (1, u "java/lang/StringLatin1"), (21, .methodref 39 40), (0, .class_ 41), (0, .nameAndType 42 43), (0, u "java/lang/Math"), (0, u "min"), (0, u "(II)I"), (44, .methodref 14 89), (0, .nameAndType 90 91), (0, u "canEncode"), (0, u "(I)Z"), (0, .methodref 39 93), (0, .nameAndType 94 43), (0, u "max"), (0, .methodref 14 96), (0, .nameAndType 97 98), (0, u "indexOfChar"), (0, u "([BIII)I"), (2, u "indexOf"), (19, u "$assertionsDisabled"), (0, u "Z"), (98, .class_ 223), (1, u "java/lang/StringLatin1$LinesSpliterator"), (166, .class_ 391), (0, u "java/lang/StringLatin1$CharsSpliterator")] 3

def k9m0 : Method := { name := "<init>", desc := "()V", sig := { parameters := [], returnType := none }, accessFlags := 0, code := none }
def k9c1 : Code := { maxStack := 2, maxLocals := 1, code := jdk_43_method_4_code, exceptionTable := #[], attributes := #[] }
def k9m1 : Method := { name := "canEncode", desc := "(I)Z", sig := { parameters := [.int], returnType := some .boolean }, accessFlags := 9, code := some k9c1 }
def k9c2 : Code := { maxStack := 4, maxLocals := 4, code := jdk_43_method_22_code, exceptionTable := #[], attributes := #[] }
def k9m2 : Method := { name := "indexOf", desc := "([BIII)I", sig := { parameters := [(.array .byte), .int, .int, .int], returnType := some .int }, accessFlags := 9, code := some k9c2 }
def k9c3 : Code := { maxStack := 2, maxLocals := 6, code := jdk_43_method_23_code, exceptionTable := #[], attributes := #[] }
def k9m3 : Method := { name := "indexOfChar", desc := "([BIII)I", sig := { parameters := [(.array .byte), .int, .int, .int], returnType := some .int }, accessFlags := 10, code := some k9c3 }
/-- java/lang/StringLatin1 -/
def k9 : Class := { plain "java/lang/StringLatin1" (some 0) with
  accessFlags := 48
  interfaces := #[]
  cf := some (fileOf pool9 14 #[.nestMembers #[390, 221]] #[{ accessFlags := 0, nameIndex := 7, descriptorIndex := 8, attributes := #[] }, { accessFlags := 9, nameIndex := 90, descriptorIndex := 91, attributes := #[] }, { accessFlags := 9, nameIndex := 101, descriptorIndex := 98, attributes := #[] }, { accessFlags := 10, nameIndex := 97, descriptorIndex := 98, attributes := #[] }] 48 4 #[] #[{ accessFlags := 4120, nameIndex := 121, descriptorIndex := 122, attributes := #[] }])
  fields := #[{ name := "$assertionsDisabled", type := .boolean, accessFlags := 4120, slot := 0, constantValue := 0 }]
  methods := #[k9m0, k9m1, k9m2, k9m3]
  instanceTypes := #[]
  staticTypes := #[.boolean]
  resolved := Array.replicate 395 none
  statics := none }

def pool10 : Array CpInfo := pool [(1, .class_ 2), (0, u "java/lang/Math"), (1, .class_ 6), (1, u "java/lang/Object"), (0, u "<init>"), (0, u "()V"), (89, .class_ 100), (1, u "java/lang/Math$RandomNumberGeneratorHolder"), (71, u "negativeZeroFloatBits"), (0, u "J"), (2, u "negativeZeroDoubleBits"), (21, u "max"), (2, u "min"), (43, u "$assertionsDisabled"), (0, u "Z"), (88, u "(II)I"), (2, u "twoToTheDoubleScaleDown"), (0, u "D"), (4, u "twoToTheDoubleScaleUp"), (9, u "E"), (3, u "PI"), (2, u "TAU"), (2, u "DEGREES_TO_RADIANS"), (0, u "RADIANS_TO_DEGREES")] 94

def k10m0 : Method := { name := "<init>", desc := "()V", sig := { parameters := [], returnType := none }, accessFlags := 2, code := none }
def k10c1 : Code := { maxStack := 2, maxLocals := 2, code := jdk_29_method_65_code, exceptionTable := #[], attributes := #[] }
def k10m1 : Method := { name := "max", desc := "(II)I", sig := { parameters := [.int, .int], returnType := some .int }, accessFlags := 9, code := some k10c1 }
def k10c2 : Code := { maxStack := 2, maxLocals := 2, code := jdk_29_method_69_code, exceptionTable := #[], attributes := #[] }
def k10m2 : Method := { name := "min", desc := "(II)I", sig := { parameters := [.int, .int], returnType := some .int }, accessFlags := 9, code := some k10c2 }
/-- java/lang/Math -/
def k10 : Class := { plain "java/lang/Math" (some 0) with
  accessFlags := 49
  interfaces := #[]
  cf := some (fileOf pool10 1 #[.nestMembers #[98]] #[{ accessFlags := 2, nameIndex := 7, descriptorIndex := 8, attributes := #[] }, { accessFlags := 9, nameIndex := 198, descriptorIndex := 335, attributes := #[] }, { accessFlags := 9, nameIndex := 201, descriptorIndex := 335, attributes := #[] }] 49 4 #[] #[{ accessFlags := 25, nameIndex := 354, descriptorIndex := 339, attributes := #[] }, { accessFlags := 25, nameIndex := 358, descriptorIndex := 339, attributes := #[] }, { accessFlags := 25, nameIndex := 361, descriptorIndex := 339, attributes := #[] }, { accessFlags := 26, nameIndex := 364, descriptorIndex := 339, attributes := #[] }, { accessFlags := 26, nameIndex := 365, descriptorIndex := 339, attributes := #[] }, { accessFlags := 26, nameIndex := 172, descriptorIndex := 173, attributes := #[] }, { accessFlags := 26, nameIndex := 176, descriptorIndex := 173, attributes := #[] }, { accessFlags := 8, nameIndex := 344, descriptorIndex := 339, attributes := #[] }, { accessFlags := 8, nameIndex := 338, descriptorIndex := 339, attributes := #[] }, { accessFlags := 4120, nameIndex := 245, descriptorIndex := 246, attributes := #[] }])
  fields := #[{ name := "E", type := .double, accessFlags := 25, slot := 0, constantValue := 0 }, { name := "PI", type := .double, accessFlags := 25, slot := 1, constantValue := 0 }, { name := "TAU", type := .double, accessFlags := 25, slot := 2, constantValue := 0 }, { name := "DEGREES_TO_RADIANS", type := .double, accessFlags := 26, slot := 3, constantValue := 0 }, { name := "RADIANS_TO_DEGREES", type := .double, accessFlags := 26, slot := 4, constantValue := 0 }, { name := "negativeZeroFloatBits", type := .long, accessFlags := 26, slot := 5, constantValue := 0 }, { name := "negativeZeroDoubleBits", type := .long, accessFlags := 26, slot := 6, constantValue := 0 }, { name := "twoToTheDoubleScaleUp", type := .double, accessFlags := 8, slot := 7, constantValue := 0 }, { name := "twoToTheDoubleScaleDown", type := .double, accessFlags := 8, slot := 8, constantValue := 0 }, { name := "$assertionsDisabled", type := .boolean, accessFlags := 4120, slot := 9, constantValue := 0 }]
  methods := #[k10m0, k10m1, k10m2]
  instanceTypes := #[]
  staticTypes := #[.double, .double, .double, .double, .double, .long, .long, .double, .double, .boolean]
  resolved := Array.replicate 460 none
  statics := none }

def pool11 : Array CpInfo := pool [(6, .class_ 8), (1, u "java/lang/Object"), (0, u "<init>"), (0, u "()V"), (1, .class_ 14), (1, u "java/lang/StringUTF16"), (31, u "$assertionsDisabled"), (0, u "Z"), (13, u "HI_BYTE_SHIFT"), (0, u "I"), (2, u "LO_BYTE_SHIFT"), (49, .methodref 12 116), (0, .nameAndType 117 118), (0, u "compress"), (0, u "([CI[BII)I"), (3, u "([CII)[B"), (138, u "coderFromArrayLen"), (0, u "([BI)B"), (106, .class_ 371), (1, u "java/lang/StringUTF16$LinesSpliterator"), (58, u "MAX_LENGTH"), (196, .class_ 628), (0, u "java/lang/StringUTF16$CodePointsSpliterator"), (0, .class_ 630), (0, u "java/lang/StringUTF16$CharsSpliterator")] 4

def k11m0 : Method := { name := "<init>", desc := "()V", sig := { parameters := [], returnType := none }, accessFlags := 0, code := none }
def k11c1 : Code := { maxStack := 2, maxLocals := 2, code := jdk_52_method_15_code, exceptionTable := #[], attributes := #[] }
def k11m1 : Method := { name := "coderFromArrayLen", desc := "([BI)B", sig := { parameters := [(.array .byte), .int], returnType := some .byte }, accessFlags := 8, code := some k11c1 }
def k11c2 : Code := { maxStack := 5, maxLocals := 6, code := jdk_52_method_16_code, exceptionTable := #[], attributes := #[] }
def k11m2 : Method := { name := "compress", desc := "([CII)[B", sig := { parameters := [(.array .char), .int, .int], returnType := some (.array .byte) }, accessFlags := 9, code := some k11c2 }
def k11c3 : Code := { maxStack := 3, maxLocals := 7, code := jdk_52_method_21_code, exceptionTable := #[], attributes := #[] }
def k11m3 : Method := { name := "compress", desc := "([CI[BII)I", sig := { parameters := [(.array .char), .int, (.array .byte), .int, .int], returnType := some .int }, accessFlags := 9, code := some k11c3 }
/-- java/lang/StringUTF16 -/
def k11 : Class := { plain "java/lang/StringUTF16" (some 0) with
  accessFlags := 48
  interfaces := #[]
  cf := some (fileOf pool11 12 #[.nestMembers #[627, 629, 369]] #[{ accessFlags := 0, nameIndex := 9, descriptorIndex := 10, attributes := #[] }, { accessFlags := 8, nameIndex := 261, descriptorIndex := 262, attributes := #[] }, { accessFlags := 9, nameIndex := 117, descriptorIndex := 122, attributes := #[] }, { accessFlags := 9, nameIndex := 117, descriptorIndex := 118, attributes := #[] }] 48 6 #[] #[{ accessFlags := 26, nameIndex := 61, descriptorIndex := 62, attributes := #[] }, { accessFlags := 26, nameIndex := 65, descriptorIndex := 62, attributes := #[] }, { accessFlags := 24, nameIndex := 430, descriptorIndex := 62, attributes := #[] }, { accessFlags := 4120, nameIndex := 46, descriptorIndex := 47, attributes := #[] }])
  fields := #[{ name := "HI_BYTE_SHIFT", type := .int, accessFlags := 26, slot := 0, constantValue := 0 }, { name := "LO_BYTE_SHIFT", type := .int, accessFlags := 26, slot := 1, constantValue := 0 }, { name := "MAX_LENGTH", type := .int, accessFlags := 24, slot := 2, constantValue := 0 }, { name := "$assertionsDisabled", type := .boolean, accessFlags := 4120, slot := 3, constantValue := 0 }]
  methods := #[k11m0, k11m1, k11m2, k11m3]
  instanceTypes := #[]
  staticTypes := #[.int, .int, .int, .boolean]
  resolved := Array.replicate 635 none
  statics := none }

def pool12 : Array CpInfo := pool [(2, .class_ 4), (1, u "java/lang/Object"), (0, u "<init>"), (0, u "()V"), (17, .class_ 26), (1, u "jdk/internal/util/Preconditions"), (28, .class_ 56), (0, u "jdk/internal/util/Preconditions$4"), (57, .class_ 115), (0, u "jdk/internal/util/Preconditions$1"), (7, u "SIOOBE_FORMATTER"), (0, u "Ljava/util/function/BiFunction;"), (0, .class_ 126), (0, u "jdk/internal/util/Preconditions$2"), (3, u "AIOOBE_FORMATTER"), (0, .class_ 132), (0, u "jdk/internal/util/Preconditions$3"), (3, u "IOOBE_FORMATTER")] 57

def k12m0 : Method := { name := "<init>", desc := "()V", sig := { parameters := [], returnType := none }, accessFlags := 1, code := none }
/-- jdk/internal/util/Preconditions -/
def k12 : Class := { plain "jdk/internal/util/Preconditions" (some 0) with
  accessFlags := 33
  interfaces := #[]
  cf := some (fileOf pool12 24 #[.nestMembers #[55, 131, 125, 114]] #[{ accessFlags := 1, nameIndex := 5, descriptorIndex := 6, attributes := #[] }] 33 2 #[] #[{ accessFlags := 25, nameIndex := 123, descriptorIndex := 124, attributes := #[] }, { accessFlags := 25, nameIndex := 130, descriptorIndex := 124, attributes := #[] }, { accessFlags := 25, nameIndex := 136, descriptorIndex := 124, attributes := #[] }])
  fields := #[{ name := "SIOOBE_FORMATTER", type := (.object "java/util/function/BiFunction"), accessFlags := 25, slot := 0, constantValue := 0 }, { name := "AIOOBE_FORMATTER", type := (.object "java/util/function/BiFunction"), accessFlags := 25, slot := 1, constantValue := 0 }, { name := "IOOBE_FORMATTER", type := (.object "java/util/function/BiFunction"), accessFlags := 25, slot := 2, constantValue := 0 }]
  methods := #[k12m0]
  instanceTypes := #[]
  staticTypes := #[(.object "java/util/function/BiFunction"), (.object "java/util/function/BiFunction"), (.object "java/util/function/BiFunction")]
  resolved := Array.replicate 194 none
  statics := some 1 }

def pool13 : Array CpInfo := pool [(9, u "<init>"), (6, .class_ 18), (1, u "java/lang/Object"), (0, u "()V"), (1, .class_ 23), (1, u "jdk/internal/util/ArraysSupport"), (0, u "LOG2_ARRAY_LONG_INDEX_SCALE"), (0, u "I"), (2, u "U"), (0, u "Ljdk/internal/misc/Unsafe;"), (8, u "BIG_ENDIAN"), (0, u "Z"), (8, u "LOG2_BYTE_BIT_SIZE"), (4, u "LOG2_ARRAY_INT_INDEX_SCALE"), (54, u "JLA"), (0, u "Ljdk/internal/access/JavaLangAccess;"), (11, u "LOG2_ARRAY_BOOLEAN_INDEX_SCALE"), (9, u "LOG2_ARRAY_BYTE_INDEX_SCALE"), (5, u "LOG2_ARRAY_CHAR_INDEX_SCALE"), (5, u "LOG2_ARRAY_SHORT_INDEX_SCALE"), (18, u "LOG2_ARRAY_FLOAT_INDEX_SCALE"), (24, u "LOG2_ARRAY_DOUBLE_INDEX_SCALE"), (89, u "T_BOOLEAN"), (2, u "T_CHAR"), (1, u "T_FLOAT"), (1, u "T_DOUBLE"), (1, u "T_BYTE"), (1, u "T_SHORT"), (1, u "T_INT"), (1, u "T_LONG"), (1, u "SOFT_MAX_ARRAY_LENGTH")] 83

def k13m0 : Method := { name := "<init>", desc := "()V", sig := { parameters := [], returnType := none }, accessFlags := 2, code := none }
/-- jdk/internal/util/ArraysSupport -/
def k13 : Class := { plain "jdk/internal/util/ArraysSupport" (some 0) with
  accessFlags := 33
  interfaces := #[]
  cf := some (fileOf pool13 21 #[] #[{ accessFlags := 2, nameIndex := 9, descriptorIndex := 19, attributes := #[] }] 33 16 #[] #[{ accessFlags := 24, nameIndex := 28, descriptorIndex := 29, attributes := #[] }, { accessFlags := 26, nameIndex := 38, descriptorIndex := 39, attributes := #[] }, { accessFlags := 25, nameIndex := 121, descriptorIndex := 25, attributes := #[] }, { accessFlags := 25, nameIndex := 131, descriptorIndex := 25, attributes := #[] }, { accessFlags := 25, nameIndex := 137, descriptorIndex := 25, attributes := #[] }, { accessFlags := 25, nameIndex := 143, descriptorIndex := 25, attributes := #[] }, { accessFlags := 25, nameIndex := 53, descriptorIndex := 25, attributes := #[] }, { accessFlags := 25, nameIndex := 24, descriptorIndex := 25, attributes := #[] }, { accessFlags := 25, nameIndex := 162, descriptorIndex := 25, attributes := #[] }, { accessFlags := 25, nameIndex := 187, descriptorIndex := 25, attributes := #[] }, { accessFlags := 26, nameIndex := 48, descriptorIndex := 25, attributes := #[] }, { accessFlags := 25, nameIndex := 277, descriptorIndex := 25, attributes := #[] }, { accessFlags := 25, nameIndex := 280, descriptorIndex := 25, attributes := #[] }, { accessFlags := 25, nameIndex := 282, descriptorIndex := 25, attributes := #[] }, { accessFlags := 25, nameIndex := 284, descriptorIndex := 25, attributes := #[] }, { accessFlags := 25, nameIndex := 286, descriptorIndex := 25, attributes := #[] }, { accessFlags := 25, nameIndex := 288, descriptorIndex := 25, attributes := #[] }, { accessFlags := 25, nameIndex := 290, descriptorIndex := 25, attributes := #[] }, { accessFlags := 25, nameIndex := 292, descriptorIndex := 25, attributes := #[] }, { accessFlags := 26, nameIndex := 108, descriptorIndex := 109, attributes := #[] }, { accessFlags := 25, nameIndex := 294, descriptorIndex := 25, attributes := #[] }])
  fields := #[{ name := "U", type := (.object "jdk/internal/misc/Unsafe"), accessFlags := 24, slot := 0, constantValue := 0 }, { name := "BIG_ENDIAN", type := .boolean, accessFlags := 26, slot := 1, constantValue := 0 }, { name := "LOG2_ARRAY_BOOLEAN_INDEX_SCALE", type := .int, accessFlags := 25, slot := 2, constantValue := 0 }, { name := "LOG2_ARRAY_BYTE_INDEX_SCALE", type := .int, accessFlags := 25, slot := 3, constantValue := 0 }, { name := "LOG2_ARRAY_CHAR_INDEX_SCALE", type := .int, accessFlags := 25, slot := 4, constantValue := 0 }, { name := "LOG2_ARRAY_SHORT_INDEX_SCALE", type := .int, accessFlags := 25, slot := 5, constantValue := 0 }, { name := "LOG2_ARRAY_INT_INDEX_SCALE", type := .int, accessFlags := 25, slot := 6, constantValue := 0 }, { name := "LOG2_ARRAY_LONG_INDEX_SCALE", type := .int, accessFlags := 25, slot := 7, constantValue := 0 }, { name := "LOG2_ARRAY_FLOAT_INDEX_SCALE", type := .int, accessFlags := 25, slot := 8, constantValue := 0 }, { name := "LOG2_ARRAY_DOUBLE_INDEX_SCALE", type := .int, accessFlags := 25, slot := 9, constantValue := 0 }, { name := "LOG2_BYTE_BIT_SIZE", type := .int, accessFlags := 26, slot := 10, constantValue := 0 }, { name := "T_BOOLEAN", type := .int, accessFlags := 25, slot := 11, constantValue := 0 }, { name := "T_CHAR", type := .int, accessFlags := 25, slot := 12, constantValue := 0 }, { name := "T_FLOAT", type := .int, accessFlags := 25, slot := 13, constantValue := 0 }, { name := "T_DOUBLE", type := .int, accessFlags := 25, slot := 14, constantValue := 0 }, { name := "T_BYTE", type := .int, accessFlags := 25, slot := 15, constantValue := 0 }, { name := "T_SHORT", type := .int, accessFlags := 25, slot := 16, constantValue := 0 }, { name := "T_INT", type := .int, accessFlags := 25, slot := 17, constantValue := 0 }, { name := "T_LONG", type := .int, accessFlags := 25, slot := 18, constantValue := 0 }, { name := "JLA", type := (.object "jdk/internal/access/JavaLangAccess"), accessFlags := 26, slot := 19, constantValue := 0 }, { name := "SOFT_MAX_ARRAY_LENGTH", type := .int, accessFlags := 25, slot := 20, constantValue := 0 }]
  methods := #[k13m0]
  instanceTypes := #[]
  staticTypes := #[(.object "jdk/internal/misc/Unsafe"), .boolean, .int, .int, .int, .int, .int, .int, .int, .int, .int, .int, .int, .int, .int, .int, .int, .int, .int, (.object "jdk/internal/access/JavaLangAccess"), .int]
  resolved := Array.replicate 378 none
  statics := none }

def pool14 : Array CpInfo := pool [(1, u "java/lang/Cloneable"), (0, .class_ 1), (0, u "java/lang/Object"), (0, .class_ 3)] 3

/-- java/lang/Cloneable -/
def k14 : Class := { plain "java/lang/Cloneable" (some 0) with
  accessFlags := 1537
  interfaces := #[]
  cf := some (fileOf pool14 2 #[] #[] 1537 4 #[] #[])
  fields := #[]
  methods := #[]
  instanceTypes := #[]
  staticTypes := #[]
  resolved := Array.replicate 8 none
  statics := none }

/-- the primitive byte -/
def k15 : Class := { plain "byte" none with kind := .primitive 'B', accessFlags := 0x411 }
/-- [B -/
def k16 : Class := { plain "[B" (some 0) with kind := .array 15 .byte, interfaces := #[14, 2], accessFlags := 1041 }

/-- the primitive char -/
def k17 : Class := { plain "char" none with kind := .primitive 'C', accessFlags := 0x411 }
/-- [C -/
def k18 : Class := { plain "[C" (some 0) with kind := .array 17 .char, interfaces := #[14, 2], accessFlags := 1041 }

/-- the primitive int -/
def k19 : Class := { plain "int" none with kind := .primitive 'I', accessFlags := 0x411 }
/-- [I -/
def k20 : Class := { plain "[I" (some 0) with kind := .array 19 .int, interfaces := #[14, 2], accessFlags := 1041 }

def heap : Heap := #[{ cls := 7, slots := #[.long 0, .int 1, .null, .int 0, .null, .int 0, .int 0], vm := .statics 7 },
  { cls := 12, slots := #[.null, .null, .null], vm := .statics 12 }]
def classes : Array Class := #[k0, k1, k2, k3, k4, k5, k6, k7, k8, k9, k10, k11, k12, k13, k14, k15, k16, k17, k18, k19, k20]
def interned : List (Array UInt16 × Addr) := []
def slotsUsed : Nat := 10
def theMethod : MethodId := ⟨1, 1⟩
def args0 : Array Value := #[.int 3, .int 65, .int 66, .int 67, .int 68]
def aboutOver (below : List Frame) : State where
  vm := { classes := classes, interned := interned.toArray }
  heap := heap
  slotsUsed := slotsUsed
  threads := #[{ frames := .invoking theMethod args0 :: below }]
def below0 : List Frame := [.native { method := ⟨0, 0⟩, args := #[] }]
def about1 : State := aboutOver below0
def p0 : Program := .bare "" "" ""
def e0 : Env := launch0.env 0 0 0
theorem w_frames : about1.frames = Frame.invoking theMethod args0 :: below0 := rfl
set_option maxRecDepth 65536 in
theorem w_args : argsFit about1.vm theMethod args0 = true := by decide +kernel
set_option maxRecDepth 65536 in
theorem w_heap : heapFits about1 = true := by decide +kernel
set_option maxRecDepth 65536 in
theorem w_runnable : about1.curStatus? = some .runnable := by decide +kernel
set_option maxRecDepth 65536 in
theorem w_alone : about1.alone = true := by decide +kernel
set_option maxRecDepth 65536 in
theorem w_named : about1.methodNamed? x = some theMethod := by decide +kernel
set_option maxRecDepth 65536 in
theorem w_hears : about1.hears theMethod below0 = true := by decide +kernel
set_option maxRecDepth 65536 in
theorem w_ripe : about1.ripe theMethod args0 below0 = true := by decide +kernel
theorem w_running : about1.status = .running := rfl
set_option maxRecDepth 65536 in
theorem w_room : about1.hasRoom e0.platform room_1 = true :=
  launch0.hasRoom_least _ room_1 (by decide +kernel) (by decide +kernel) (by decide +kernel) (by decide +kernel) (by decide +kernel) (by decide +kernel)
theorem allAtoms_all (ts : List Jvm.Cond) (a : Array Jvm.Value) (st : Jvm.State) : (allAtoms ts).before a st = ts.all (fun c => c.before a st) := by
  induction ts with
  | nil => rfl
  | cons c t ih =>
    show (Jvm.Cond.and c (allAtoms t)).before a st = _
    rw [Jvm.Cond.before_and, ih, List.all_cons]
def words1 : List Jvm.Cond := Jvm.Cond.code x code maxLocals ret :: tables_1
/-- a 'code' word, met by the world's own term for the bytes: nothing is compared byte by byte -/
theorem code_word {y : MethodName} {bytes : ByteArray} {mx : Nat} {rt : Option FieldType} {a : Array Value} {s : State} {m : MethodId} {meth : Method} {c : Code} (h1 : s.methodNamed? y = some m) (h2 : s.vm.method? m = some meth) (h3 : meth.code = some c) (h4 : c.code = bytes)
    (h5 : (c.maxLocals == mx && c.exceptionTable.isEmpty && decide (c.maxStack ≤ mostOperands) && decide (meth.sig.returnType = rt) && !meth.locks && decide (parseMethodDescriptor y.desc = some meth.sig)) = true) : (Jvm.Cond.code y bytes mx rt).before a s = true := by
  simp only [Bool.and_eq_true, beq_iff_eq, Bool.not_eq_true', decide_eq_true_eq] at h5
  obtain ⟨⟨⟨⟨⟨g1, g2⟩, g3⟩, g4⟩, g5⟩, g6⟩ := h5
  simp [Cond.before, Cond.holds, Cond.value, h1, h2, h3, h4, g1, g2, g3, g4, g5, g6]
def isCode : Jvm.Cond → Bool
  | .code _ _ _ _ => true
  | _ => false
theorem all_split {L : List Jvm.Cond} {P : Jvm.Cond → Bool} (h1 : L.all (fun c => isCode c || P c) = true) (h2 : ∀ c ∈ L.filter isCode, P c = true) : L.all P = true := by
  refine List.all_eq_true.mpr fun c hc => ?_
  have h := List.all_eq_true.mp h1 c hc
  rcases Bool.eq_false_or_eq_true (isCode c) with hi | hi
  · exact h2 c (List.mem_filter.mpr ⟨hc, hi⟩)
  · simpa [hi] using h
set_option maxRecDepth 65536 in
theorem w_c0 : (Jvm.Cond.code x code maxLocals ret).before args0 about1 = true := code_word (m := ⟨1, 1⟩) (meth := k1m1) (c := k1c1) (by decide +kernel) rfl rfl rfl (by decide +kernel)
set_option maxRecDepth 65536 in
theorem w_c1 : (Jvm.Cond.code ({ cls := "java/lang/String", name := "<init>", desc := "([C)V" } : Jvm.MethodName) jdk_42_method_3_code (2 : Nat) (Option.none : Option Jvm.ClassFile.FieldType)).before args0 about1 = true := code_word (m := ⟨7, 1⟩) (meth := k7m1) (c := k7c1) (by decide +kernel) rfl rfl rfl (by decide +kernel)
set_option maxRecDepth 65536 in
theorem w_c2 : (Jvm.Cond.code ({ cls := "java/lang/String", name := "<init>", desc := "([CIILjava/lang/Void;)V" } : Jvm.MethodName) jdk_42_method_149_code (6 : Nat) (Option.none : Option Jvm.ClassFile.FieldType)).before args0 about1 = true := code_word (m := ⟨7, 5⟩) (meth := k7m5) (c := k7c5) (by decide +kernel) rfl rfl rfl (by decide +kernel)
set_option maxRecDepth 65536 in
theorem w_c3 : (Jvm.Cond.code ({ cls := "java/lang/Object", name := "<init>", desc := "()V" } : Jvm.MethodName) object_method_1_code (1 : Nat) (Option.none : Option Jvm.ClassFile.FieldType)).before args0 about1 = true := code_word (m := ⟨0, 0⟩) (meth := k0m0) (c := k0c0) (by decide +kernel) rfl rfl rfl (by decide +kernel)
set_option maxRecDepth 65536 in
theorem w_c4 : (Jvm.Cond.code ({ cls := "com/example/harborspread/harborspread/Decimals", name := "isTooLong", desc := "(Ljava/lang/String;)Z" } : Jvm.MethodName) prog_21_method_3_code (1 : Nat) (Option.some Jvm.ClassFile.FieldType.boolean)).before args0 about1 = true := code_word (m := ⟨8, 1⟩) (meth := k8m1) (c := k8c1) (by decide +kernel) rfl rfl rfl (by decide +kernel)
set_option maxRecDepth 65536 in
theorem w_c5 : (Jvm.Cond.code ({ cls := "java/lang/String", name := "indexOf", desc := "(I)I" } : Jvm.MethodName) jdk_42_method_79_code (2 : Nat) (Option.some Jvm.ClassFile.FieldType.int)).before args0 about1 = true := code_word (m := ⟨7, 3⟩) (meth := k7m3) (c := k7c3) (by decide +kernel) rfl rfl rfl (by decide +kernel)
set_option maxRecDepth 65536 in
theorem w_c6 : (Jvm.Cond.code ({ cls := "java/lang/String", name := "indexOf", desc := "(II)I" } : Jvm.MethodName) jdk_42_method_80_code (3 : Nat) (Option.some Jvm.ClassFile.FieldType.int)).before args0 about1 = true := code_word (m := ⟨7, 4⟩) (meth := k7m4) (c := k7c4) (by decide +kernel) rfl rfl rfl (by decide +kernel)
set_option maxRecDepth 65536 in
theorem w_c7 : (Jvm.Cond.code ({ cls := "java/lang/String", name := "isLatin1", desc := "()Z" } : Jvm.MethodName) jdk_42_method_154_code (1 : Nat) (Option.some Jvm.ClassFile.FieldType.boolean)).before args0 about1 = true := code_word (m := ⟨7, 7⟩) (meth := k7m7) (c := k7c7) (by decide +kernel) rfl rfl rfl (by decide +kernel)
set_option maxRecDepth 65536 in
theorem w_c8 : (Jvm.Cond.code ({ cls := "java/lang/String", name := "length", desc := "()I" } : Jvm.MethodName) jdk_42_method_54_code (1 : Nat) (Option.some Jvm.ClassFile.FieldType.int)).before args0 about1 = true := code_word (m := ⟨7, 2⟩) (meth := k7m2) (c := k7c2) (by decide +kernel) rfl rfl rfl (by decide +kernel)
set_option maxRecDepth 65536 in
theorem w_c9 : (Jvm.Cond.code ({ cls := "java/lang/String", name := "coder", desc := "()B" } : Jvm.MethodName) jdk_42_method_152_code (1 : Nat) (Option.some Jvm.ClassFile.FieldType.byte)).before args0 about1 = true := code_word (m := ⟨7, 6⟩) (meth := k7m6) (c := k7c6) (by decide +kernel) rfl rfl rfl (by decide +kernel)
set_option maxRecDepth 65536 in
theorem w_c10 : (Jvm.Cond.code ({ cls := "java/lang/StringLatin1", name := "indexOf", desc := "([BIII)I" } : Jvm.MethodName) jdk_43_method_22_code (4 : Nat) (Option.some Jvm.ClassFile.FieldType.int)).before args0 about1 = true := code_word (m := ⟨9, 2⟩) (meth := k9m2) (c := k9c2) (by decide +kernel) rfl rfl rfl (by decide +kernel)
set_option maxRecDepth 65536 in
theorem w_c11 : (Jvm.Cond.code ({ cls := "java/lang/StringLatin1", name := "canEncode", desc := "(I)Z" } : Jvm.MethodName) jdk_43_method_4_code (1 : Nat) (Option.some Jvm.ClassFile.FieldType.boolean)).before args0 about1 = true := code_word (m := ⟨9, 1⟩) (meth := k9m1) (c := k9c1) (by decide +kernel) rfl rfl rfl (by decide +kernel)
set_option maxRecDepth 65536 in
theorem w_c12 : (Jvm.Cond.code ({ cls := "java/lang/Math", name := "max", desc := "(II)I" } : Jvm.MethodName) jdk_29_method_65_code (2 : Nat) (Option.some Jvm.ClassFile.FieldType.int)).before args0 about1 = true := code_word (m := ⟨10, 1⟩) (meth := k10m1) (c := k10c1) (by decide +kernel) rfl rfl rfl (by decide +kernel)
set_option maxRecDepth 65536 in
theorem w_c13 : (Jvm.Cond.code ({ cls := "java/lang/Math", name := "min", desc := "(II)I" } : Jvm.MethodName) jdk_29_method_69_code (2 : Nat) (Option.some Jvm.ClassFile.FieldType.int)).before args0 about1 = true := code_word (m := ⟨10, 2⟩) (meth := k10m2) (c := k10c2) (by decide +kernel) rfl rfl rfl (by decide +kernel)
set_option maxRecDepth 65536 in
theorem w_c14 : (Jvm.Cond.code ({ cls := "java/lang/StringUTF16", name := "compress", desc := "([CII)[B" } : Jvm.MethodName) jdk_52_method_16_code (6 : Nat) (Option.some (Jvm.ClassFile.FieldType.array Jvm.ClassFile.FieldType.byte))).before args0 about1 = true := code_word (m := ⟨11, 2⟩) (meth := k11m2) (c := k11c2) (by decide +kernel) rfl rfl rfl (by decide +kernel)
set_option maxRecDepth 65536 in
theorem w_c15 : (Jvm.Cond.code ({ cls := "java/lang/StringUTF16", name := "compress", desc := "([CI[BII)I" } : Jvm.MethodName) jdk_52_method_21_code (7 : Nat) (Option.some Jvm.ClassFile.FieldType.int)).before args0 about1 = true := code_word (m := ⟨11, 3⟩) (meth := k11m3) (c := k11c3) (by decide +kernel) rfl rfl rfl (by decide +kernel)
set_option maxRecDepth 65536 in
theorem w_c16 : (Jvm.Cond.code ({ cls := "java/lang/StringUTF16", name := "coderFromArrayLen", desc := "([BI)B" } : Jvm.MethodName) jdk_52_method_15_code (2 : Nat) (Option.some Jvm.ClassFile.FieldType.byte)).before args0 about1 = true := code_word (m := ⟨11, 1⟩) (meth := k11m1) (c := k11c1) (by decide +kernel) rfl rfl rfl (by decide +kernel)
set_option maxRecDepth 65536 in
theorem w_c17 : (Jvm.Cond.code ({ cls := "java/lang/StringLatin1", name := "indexOfChar", desc := "([BIII)I" } : Jvm.MethodName) jdk_43_method_23_code (6 : Nat) (Option.some Jvm.ClassFile.FieldType.int)).before args0 about1 = true := code_word (m := ⟨9, 3⟩) (meth := k9m3) (c := k9c3) (by decide +kernel) rfl rfl rfl (by decide +kernel)
def codes1 : List Jvm.Cond := [Jvm.Cond.code x code maxLocals ret, Jvm.Cond.code ({ cls := "java/lang/String", name := "<init>", desc := "([C)V" } : Jvm.MethodName) jdk_42_method_3_code (2 : Nat) (Option.none : Option Jvm.ClassFile.FieldType), Jvm.Cond.code ({ cls := "java/lang/String", name := "<init>", desc := "([CIILjava/lang/Void;)V" } : Jvm.MethodName) jdk_42_method_149_code (6 : Nat) (Option.none : Option Jvm.ClassFile.FieldType), Jvm.Cond.code ({ cls := "java/lang/Object", name := "<init>", desc := "()V" } : Jvm.MethodName) object_method_1_code (1 : Nat) (Option.none : Option Jvm.ClassFile.FieldType), Jvm.Cond.code ({ cls := "com/example/harborspread/harborspread/Decimals", name := "isTooLong", desc := "(Ljava/lang/String;)Z" } : Jvm.MethodName) prog_21_method_3_code (1 : Nat) (Option.some Jvm.ClassFile.FieldType.boolean), Jvm.Cond.code ({ cls := "java/lang/String", name := "indexOf", desc := "(I)I" } : Jvm.MethodName) jdk_42_method_79_code (2 : Nat) (Option.some Jvm.ClassFile.FieldType.int), Jvm.Cond.code ({ cls := "java/lang/String", name := "indexOf", desc := "(II)I" } : Jvm.MethodName) jdk_42_method_80_code (3 : Nat) (Option.some Jvm.ClassFile.FieldType.int), Jvm.Cond.code ({ cls := "java/lang/String", name := "isLatin1", desc := "()Z" } : Jvm.MethodName) jdk_42_method_154_code (1 : Nat) (Option.some Jvm.ClassFile.FieldType.boolean), Jvm.Cond.code ({ cls := "java/lang/String", name := "length", desc := "()I" } : Jvm.MethodName) jdk_42_method_54_code (1 : Nat) (Option.some Jvm.ClassFile.FieldType.int), Jvm.Cond.code ({ cls := "java/lang/String", name := "coder", desc := "()B" } : Jvm.MethodName) jdk_42_method_152_code (1 : Nat) (Option.some Jvm.ClassFile.FieldType.byte), Jvm.Cond.code ({ cls := "java/lang/StringLatin1", name := "indexOf", desc := "([BIII)I" } : Jvm.MethodName) jdk_43_method_22_code (4 : Nat) (Option.some Jvm.ClassFile.FieldType.int), Jvm.Cond.code ({ cls := "java/lang/StringLatin1", name := "canEncode", desc := "(I)Z" } : Jvm.MethodName) jdk_43_method_4_code (1 : Nat) (Option.some Jvm.ClassFile.FieldType.boolean), Jvm.Cond.code ({ cls := "java/lang/Math", name := "max", desc := "(II)I" } : Jvm.MethodName) jdk_29_method_65_code (2 : Nat) (Option.some Jvm.ClassFile.FieldType.int), Jvm.Cond.code ({ cls := "java/lang/Math", name := "min", desc := "(II)I" } : Jvm.MethodName) jdk_29_method_69_code (2 : Nat) (Option.some Jvm.ClassFile.FieldType.int), Jvm.Cond.code ({ cls := "java/lang/StringUTF16", name := "compress", desc := "([CII)[B" } : Jvm.MethodName) jdk_52_method_16_code (6 : Nat) (Option.some (Jvm.ClassFile.FieldType.array Jvm.ClassFile.FieldType.byte)), Jvm.Cond.code ({ cls := "java/lang/StringUTF16", name := "compress", desc := "([CI[BII)I" } : Jvm.MethodName) jdk_52_method_21_code (7 : Nat) (Option.some Jvm.ClassFile.FieldType.int), Jvm.Cond.code ({ cls := "java/lang/StringUTF16", name := "coderFromArrayLen", desc := "([BI)B" } : Jvm.MethodName) jdk_52_method_15_code (2 : Nat) (Option.some Jvm.ClassFile.FieldType.byte), Jvm.Cond.code ({ cls := "java/lang/StringLatin1", name := "indexOfChar", desc := "([BIII)I" } : Jvm.MethodName) jdk_43_method_23_code (6 : Nat) (Option.some Jvm.ClassFile.FieldType.int)]
set_option maxRecDepth 65536 in
theorem codes_eq : words1.filter isCode = codes1 := rfl
theorem w_codes : ∀ c ∈ words1.filter isCode, c.before args0 about1 = true := by
  rw [codes_eq]
  intro c hc
  simp only [codes1, List.mem_cons, List.not_mem_nil, or_false] at hc
  rcases hc with rfl | rfl | rfl | rfl | rfl | rfl | rfl | rfl | rfl | rfl | rfl | rfl | rfl | rfl | rfl | rfl | rfl | rfl
  · exact w_c0
  · exact w_c1
  · exact w_c2
  · exact w_c3
  · exact w_c4
  · exact w_c5
  · exact w_c6
  · exact w_c7
  · exact w_c8
  · exact w_c9
  · exact w_c10
  · exact w_c11
  · exact w_c12
  · exact w_c13
  · exact w_c14
  · exact w_c15
  · exact w_c16
  · exact w_c17
set_option maxRecDepth 65536 in
theorem w_t1 : (words1.take 24).all (fun c => isCode c || c.before args0 about1) = true := by decide +kernel
set_option maxRecDepth 65536 in
theorem w_t2 : ((words1.drop 24).take 24).all (fun c => isCode c || c.before args0 about1) = true := by decide +kernel
set_option maxRecDepth 65536 in
theorem w_t3 : (((words1.drop 24).drop 24).take 24).all (fun c => isCode c || c.before args0 about1) = true := by decide +kernel
set_option maxRecDepth 65536 in
theorem w_t4 : (((words1.drop 24).drop 24).drop 24).all (fun c => isCode c || c.before args0 about1) = true := by decide +kernel
theorem w_tables : (allAtoms (Jvm.Cond.code x code maxLocals ret :: tables_1)).before args0 about1 = true := by
  rw [allAtoms_all]
  show words1.all (fun c => c.before args0 about1) = true
  refine all_split ?_ w_codes
  rw [← List.take_append_drop 24 words1, List.all_append, w_t1, ← List.take_append_drop 24 (words1.drop 24), List.all_append, w_t2, ← List.take_append_drop 24 ((words1.drop 24).drop 24), List.all_append, w_t3, w_t4]
  rfl
set_option maxRecDepth 65536 in
theorem w_rest : rest_1_c.before args0 about1 = true := by decide +kernel
set_option maxRecDepth 65536 in
theorem w_case : (Jvm.Cond.and given_1 narrow_1).before args0 about1 = true := by decide +kernel
set_option maxRecDepth 65536 in
theorem w_consts : constsHeld consts_1 about1 := Jvm.Lit.constsHeldB_iff.mp (by decide +kernel)
theorem w_applies : (headSpec (Jvm.Cond.code x code maxLocals ret :: tables_1) room_1).applies x e0.platform about1 = true :=
  (Spec.applies_iff w_frames).mpr ⟨w_running, w_runnable, w_alone, w_named, w_hears, w_ripe, w_room, w_tables⟩
theorem atStart : AtStart classFile x code maxLocals ret World_1 tables_1 room_1 Calls_1 rest_1 Pre_1 launch0 p0 e0 about1 theMethod args0 below0 :=
  ⟨lists_1, trivial, launch0.admits_env _ _ _, launch0.least_env, fairChoices_fair.cas, fairChoices_fair.clock, w_frames, w_args, w_heap, w_applies, ⟨w_consts, trivial⟩, w_rest, w_case⟩
end start1
theorem witness_1 : WitnessClaimed_1 := ⟨start1.p0, start1.e0, start1.about1, start1.theMethod, start1.args0, start1.below0, start1.atStart⟩
end Jvm.Pilot.@@N@@
