import JvmDerived
import JvmDerived.Pilot.@@N@@Statement
import JvmDerived.Pilot.@@N@@Code
set_option linter.unusedVariables false
set_option linter.unusedSimpArgs false
@@BLOCK:NumsL.lean.txt@@
namespace Jvm.Pilot.@@N@@
open Jvm Jvm.ClassFile Sem Op Lib Jvm.Free Jvm.Stand Jvm.LawKit Jvm.RoadKit Bundle Jvm.Pilot.@@N@@.Jvm.D
section OwnKit
variable {p : Program} {l : Launch} {e : Env} {R : Room} {s : State} {m : MethodId} {args : Array Value} {below : List Frame} {meth : Method} {c : Code} {T T' : State} {locs : List Loc} {cells slots : Nat} {Z : State} {a0 : Array Value} {h h' : Heap} {CC SS : Nat} {Q : Option Value → Heap → List Loc → Prop} {P : State → Prop} {g g' : JFrame} {pc q : Nat} {Ls l' : Array Slot} {st stk rest argsL : List Value}
/-- the run from here comes to a state of which P holds -/
def Go (p : Program) (e : Env) (below : List Frame) (P : State → Prop) (T : State) (g : JFrame) : Prop := ∃ s₂, Steps p.tables e below (T.setTop g) s₂ ∧ P s₂
/-- it ended by a return, and what it leaves is Q -/
def PN (below : List Frame) (s : State) (CC SS : Nat) (Q : Option Value → Heap → List Loc → Prop) (s₂ : State) : Prop :=
  s₂.status = .running ∧ ∃ v L, Ended s₂ below (.returned v) ∧ Q v s₂.heap L ∧ FrameEnd s (.returned v) s₂ L CC SS
theorem Go.back (K : Go p e below P T' g') (k : ∀ t, Steps p.tables e below (T'.setTop g') t → Steps p.tables e below (T.setTop g) t) : Go p e below P T g := by
  obtain ⟨s₂, h1, h2⟩ := K
  exact ⟨s₂, k _ h1, h2⟩
theorem own_le {n0 : Nat} (X : Old Z n0 h) : n0 ≤ h.size := X.1 ▸ X.2.1
theorem own_ge {n0 a : Nat} (X : Old Z n0 h) (g : a = h.size) : n0 ≤ a := g ▸ own_le X
theorem own_lt {a b : Nat} {h : Heap} (g : b = h.size) (k : a < h.size) : a ≠ b := by rw [g]; exact Nat.ne_of_lt k
theorem own_ltg {a b : Nat} {h : Heap} (g : h.size ≤ b) (k : a < h.size) : a ≠ b := Nat.ne_of_lt (Nat.lt_of_lt_of_le k g)
/-- what a body's walk shows -/
def Con (l : Launch) (Z : State) (y : MethodName) (bytes : ByteArray) (maxL : Nat) (ret : Option FieldType) (rm : Room) (as' : Array Value) (h0 : Heap) (Q : Option Value → Heap → List Loc → Prop) : Prop :=
  ∀ ws : List Jvm.Cond, MetFree l y (head1 (Jvm.Cond.code y bytes maxL ret :: ws) rm) (fun a U => a = as' ∧ Z.Warmed39 U.vm ∧ U.heap = h0) (fun _ _ _ _ _ => True) (fun _ U o U' => ∃ v L, o = .returned v ∧ Q v U'.heap L ∧ FrameEnd U o U' L rm.cells rm.slots)
theorem Con.of {y : MethodName} {bytes : ByteArray} {maxL : Nat} {ret : Option FieldType} {rm : Room} {as' : Array Value} {h0 : Heap} (hpl : plainFor y = true)
    (body : ∀ p e s m below meth c s₁, p.tables.exec = Jvm.exec → c.code = bytes → c.maxLocals = maxL → Z.Warmed39 s.vm → s.vm.findClass y.cls = some m.cls → meth.name = y.name → meth.sig.returnType = ret → meth.locks = false → Stand p l e rm s m as' below meth c s₁ [] 0 0 → s₁.heap = h0 → Go p e below (PN below s rm.cells rm.slots Q) s₁ (entryFrame m as' maxL)) : Con l Z y bytes maxL ret rm as' h0 Q := by
  intro ws
  refine MetFree.of_bodySF hpl hisR ?_
  intro p e s m args below meth c s₁ Bd hml0 hP hK
  obtain ⟨rfl, hZ, hh⟩ := hP
  obtain ⟨s₂, h1, h2, v, L, h3, h4, h5⟩ := body p e s m below meth c s₁ Bd.exec Bd.bytes hml0 hZ (findClass_of_methodNamed Bd.named) (name_of_methodNamed Bd.named Bd.method).1 Bd.returns Bd.notSynchronized (Stand.of_body Bd) (by rw [← hh, Bd.state]; rfl)
  exact ⟨s₂, _, h1, h2, h3, v, L, rfl, h4, h5⟩
theorem go_cast (K : Go p e below P T g') (k : g = g') : Go p e below P T g := k ▸ K
theorem go_ret0 (X : Stand p l e R s m args below meth c T locs cells slots) (hx : p.tables.exec = Jvm.exec) (hret : meth.sig.returnType = none) (hlk : meth.locks = false) (eT : T.heap = h) (hd : decode c.code pc = .ok (.return_, 1)) (hc : cells ≤ CC) (hs : slots ≤ SS) (hQ : Q none h locs) : Go p e below (PN below s CC SS Q) T (mkF m pc Ls []) := by
  obtain ⟨fs, hr, hrun, hended, hW, hsame⟩ := X.leave (v := none) (fun _ => rfl) hlk
  exact ⟨_, X.returnOut hx hret hd hr, hrun, _, _, hended, by rw [← eT] at hQ; exact hQ, ⟨_, rfl⟩, hW, hsame.mono hc hs⟩
theorem go_retA {t : FieldType} {w : Value} (X : Stand p l e R s m args below meth c T locs cells slots) (hx : p.tables.exec = Jvm.exec) (hret : meth.sig.returnType = some t) (hlk : meth.locks = false) (eT : T.heap = h) (hd : decode c.code pc = .ok (.areturn, 1)) (ht : t.isReference = true) (hw : w.isRef = true) (hn : narrow t w = w) (hc : cells ≤ CC) (hs : slots ≤ SS) (hQ : Q (some w) h locs) : Go p e below (PN below s CC SS Q) T (mkF m pc Ls (w :: st)) := by
  obtain ⟨fs, hr, hrun, hended, hW, hsame⟩ := X.leave (v := some w) (fun z => by rw [hret] at z; cases z) hlk
  exact ⟨_, retOut X hx hret hn (Or.inr (Or.inr (Or.inr (Or.inr ⟨rfl, ht, hw⟩)))) hd hr, hrun, _, _, hended, by rw [← eT] at hQ; exact hQ, ⟨_, rfl⟩, hW, hsame.mono hc hs⟩
theorem go_retI {t : FieldType} {z : Int32} (X : Stand p l e R s m args below meth c T locs cells slots) (hx : p.tables.exec = Jvm.exec) (hret : meth.sig.returnType = some t) (hlk : meth.locks = false) (eT : T.heap = h) (hd : decode c.code pc = .ok (.ireturn, 1)) (ht : t = .int ∨ t = .boolean ∨ t = .byte ∨ t = .char ∨ t = .short) (hn : narrow t (.int z) = .int z) (hc : cells ≤ CC) (hs : slots ≤ SS) (hQ : Q (some (.int z)) h locs) : Go p e below (PN below s CC SS Q) T (mkF m pc Ls (.int z :: st)) := by
  obtain ⟨fs, hr, hrun, hended, hW, hsame⟩ := X.leave (v := some (.int z)) (fun z => by rw [hret] at z; cases z) hlk
  exact ⟨_, retOut X hx hret hn (Or.inl ⟨rfl, ht, z, rfl⟩) hd hr, hrun, _, _, hended, by rw [← eT] at hQ; exact hQ, ⟨_, rfl⟩, hW, hsame.mono hc hs⟩
theorem go_retL {z : Int64} (X : Stand p l e R s m args below meth c T locs cells slots) (hx : p.tables.exec = Jvm.exec) (hret : meth.sig.returnType = some .long) (hlk : meth.locks = false) (eT : T.heap = h) (hd : decode c.code pc = .ok (.lreturn, 1)) (hc : cells ≤ CC) (hs : slots ≤ SS) (hQ : Q (some (.long z)) h locs) : Go p e below (PN below s CC SS Q) T (mkF m pc Ls (.long z :: st)) := by
  obtain ⟨fs, hr, hrun, hended, hW, hsame⟩ := X.leave (v := some (.long z)) (fun z => by rw [hret] at z; cases z) hlk
  exact ⟨_, retOut X hx hret rfl (Or.inr (Or.inl ⟨rfl, rfl, z, rfl⟩)) hd hr, hrun, _, _, hended, by rw [← eT] at hQ; exact hQ, ⟨_, rfl⟩, hW, hsame.mono hc hs⟩
theorem go_aload_n {k : Fin 4} {v : Value} (X : Stand p l e R s m args below meth c T locs cells slots) (hx : p.tables.exec = Jvm.exec) (hd : decode c.code pc = .ok (.aload_n k, 1)) (hl : Ls[k.val]? = some (.val v)) (hv : v.isRef = true) (hq : pc + 1 = q) (K : Go p e below P T (mkF m q Ls (v :: st))) : Go p e below P T (mkF m pc Ls st) := by
  subst hq; exact K.back fun _ j => XS.aloadN X.here hx rfl hd hl hv j
theorem go_aload {k : Nat} {v : Value} (X : Stand p l e R s m args below meth c T locs cells slots) (hx : p.tables.exec = Jvm.exec) (hd : decode c.code pc = .ok (.aload k, 2)) (hl : Ls[k]? = some (.val v)) (hv : v.isRef = true) (hq : pc + 2 = q) (K : Go p e below P T (mkF m q Ls (v :: st))) : Go p e below P T (mkF m pc Ls st) := by
  subst hq; exact K.back fun _ j => XS.aload X.here hx rfl hd hl hv j
theorem go_iload_n {k : Fin 4} {v : Int32} (X : Stand p l e R s m args below meth c T locs cells slots) (hx : p.tables.exec = Jvm.exec) (hd : decode c.code pc = .ok (.iload_n k, 1)) (hl : Ls[k.val]? = some (.val (.int v))) (hq : pc + 1 = q) (K : Go p e below P T (mkF m q Ls (.int v :: st))) : Go p e below P T (mkF m pc Ls st) := by
  subst hq; exact K.back fun _ j => XS.iloadN X.here hx rfl hd hl j
theorem go_iload {k : Nat} {v : Int32} (X : Stand p l e R s m args below meth c T locs cells slots) (hx : p.tables.exec = Jvm.exec) (hd : decode c.code pc = .ok (.iload k, 2)) (hl : Ls[k]? = some (.val (.int v))) (hq : pc + 2 = q) (K : Go p e below P T (mkF m q Ls (.int v :: st))) : Go p e below P T (mkF m pc Ls st) := by
  subst hq; exact K.back fun _ j => XS.iload X.here hx rfl hd hl j
theorem go_lload_n {k : Fin 4} {v : Int64} (X : Stand p l e R s m args below meth c T locs cells slots) (hx : p.tables.exec = Jvm.exec) (hd : decode c.code pc = .ok (.lload_n k, 1)) (hl : Ls[k.val]? = some (.val (.long v))) (hq : pc + 1 = q) (K : Go p e below P T (mkF m q Ls (.long v :: st))) : Go p e below P T (mkF m pc Ls st) := by
  subst hq; exact K.back fun _ j => XT.lloadN X.here hx rfl hd hl j
theorem go_lload {k : Nat} {v : Int64} (X : Stand p l e R s m args below meth c T locs cells slots) (hx : p.tables.exec = Jvm.exec) (hd : decode c.code pc = .ok (.lload k, 2)) (hl : Ls[k]? = some (.val (.long v))) (hq : pc + 2 = q) (K : Go p e below P T (mkF m q Ls (.long v :: st))) : Go p e below P T (mkF m pc Ls st) := by
  subst hq; exact K.back fun _ j => XT.lload X.here hx rfl hd hl j
theorem go_istore_n {k : Fin 4} {x : Int32} (X : Stand p l e R s m args below meth c T locs cells slots) (hx : p.tables.exec = Jvm.exec) (hd : decode c.code pc = .ok (.istore_n k, 1)) (hl : storeLocals Ls k.val (.int x) = some l') (hq : pc + 1 = q) (K : Go p e below P T (mkF m q l' st)) : Go p e below P T (mkF m pc Ls (.int x :: st)) := by
  subst hq; exact K.back fun _ j => XS.istoreN X.here hx rfl hd rfl hl j
theorem go_istore {k : Nat} {x : Int32} (X : Stand p l e R s m args below meth c T locs cells slots) (hx : p.tables.exec = Jvm.exec) (hd : decode c.code pc = .ok (.istore k, 2)) (hl : storeLocals Ls k (.int x) = some l') (hq : pc + 2 = q) (K : Go p e below P T (mkF m q l' st)) : Go p e below P T (mkF m pc Ls (.int x :: st)) := by
  subst hq; exact K.back fun _ j => XS.istore X.here hx rfl hd rfl hl j
theorem go_astore_n {k : Fin 4} {x : Value} (X : Stand p l e R s m args below meth c T locs cells slots) (hx : p.tables.exec = Jvm.exec) (hd : decode c.code pc = .ok (.astore_n k, 1)) (hv : x.isRef = true) (hl : storeLocals Ls k.val x = some l') (hq : pc + 1 = q) (K : Go p e below P T (mkF m q l' st)) : Go p e below P T (mkF m pc Ls (x :: st)) := by
  subst hq; exact K.back fun _ j => XS.astoreN X.here hx rfl hd rfl hv hl j
theorem go_astore {k : Nat} {x : Value} (X : Stand p l e R s m args below meth c T locs cells slots) (hx : p.tables.exec = Jvm.exec) (hd : decode c.code pc = .ok (.astore k, 2)) (hv : x.isRef = true) (hl : storeLocals Ls k x = some l') (hq : pc + 2 = q) (K : Go p e below P T (mkF m q l' st)) : Go p e below P T (mkF m pc Ls (x :: st)) := by
  subst hq; exact K.back fun _ j => XS.astore X.here hx rfl hd rfl hv hl j
theorem go_lstore_n {k : Fin 4} {x : Int64} (X : Stand p l e R s m args below meth c T locs cells slots) (hx : p.tables.exec = Jvm.exec) (hd : decode c.code pc = .ok (.lstore_n k, 1)) (hl : storeLocals Ls k.val (.long x) = some l') (hq : pc + 1 = q) (K : Go p e below P T (mkF m q l' st)) : Go p e below P T (mkF m pc Ls (.long x :: st)) := by
  subst hq; exact K.back fun _ j => XT.lstoreN X.here hx rfl hd rfl hl j
theorem go_lstore {k : Nat} {x : Int64} (X : Stand p l e R s m args below meth c T locs cells slots) (hx : p.tables.exec = Jvm.exec) (hd : decode c.code pc = .ok (.lstore k, 2)) (hl : storeLocals Ls k (.long x) = some l') (hq : pc + 2 = q) (K : Go p e below P T (mkF m q l' st)) : Go p e below P T (mkF m pc Ls (.long x :: st)) := by
  subst hq; exact K.back fun _ j => XT.lstore X.here hx rfl hd rfl hl j
theorem go_iconst {i : Int} {v : Int32} (X : Stand p l e R s m args below meth c T locs cells slots) (hx : p.tables.exec = Jvm.exec) (hd : decode c.code pc = .ok (.iconst i, 1)) (hv : Int32.ofInt i = v) (hq : pc + 1 = q) (K : Go p e below P T (mkF m q Ls (.int v :: st))) : Go p e below P T (mkF m pc Ls st) := by
  subst hq; exact K.back fun _ j => XT.iconstV X.here hx rfl v hd hv j
theorem go_bipush {i : Int} {v : Int32} (X : Stand p l e R s m args below meth c T locs cells slots) (hx : p.tables.exec = Jvm.exec) (hd : decode c.code pc = .ok (.bipush i, 2)) (hv : (Int8.ofInt i).toInt32 = v) (hq : pc + 2 = q) (K : Go p e below P T (mkF m q Ls (.int v :: st))) : Go p e below P T (mkF m pc Ls st) := by
  subst hq; exact K.back fun _ j => XT.bipushV X.here hx rfl v hd hv j
theorem go_sipush {i : Int} {v : Int32} (X : Stand p l e R s m args below meth c T locs cells slots) (hx : p.tables.exec = Jvm.exec) (hd : decode c.code pc = .ok (.sipush i, 3)) (hv : (Int16.ofInt i).toInt32 = v) (hq : pc + 3 = q) (K : Go p e below P T (mkF m q Ls (.int v :: st))) : Go p e below P T (mkF m pc Ls st) := by
  subst hq; exact K.back fun _ j => XT.sipushV X.here hx rfl v hd hv j
theorem go_lconst {k : Fin 2} {v : Int64} (X : Stand p l e R s m args below meth c T locs cells slots) (hx : p.tables.exec = Jvm.exec) (hd : decode c.code pc = .ok (.lconst k, 1)) (hv : Int64.ofNat k = v) (hq : pc + 1 = q) (K : Go p e below P T (mkF m q Ls (.long v :: st))) : Go p e below P T (mkF m pc Ls st) := by
  subst hq; exact K.back fun _ j => XT.lconstV X.here hx rfl v hd hv j
theorem go_aconst_null  (X : Stand p l e R s m args below meth c T locs cells slots) (hx : p.tables.exec = Jvm.exec) (hd : decode c.code pc = .ok (.aconst_null, 1))  (hq : pc + 1 = q) (K : Go p e below P T (mkF m q Ls (.null :: st))) : Go p e below P T (mkF m pc Ls st) := by
  subst hq; exact K.back fun _ j => XS.aconstNull X.here hx rfl hd j
theorem go_iadd {x y v : Int32} (X : Stand p l e R s m args below meth c T locs cells slots) (hx : p.tables.exec = Jvm.exec) (hd : decode c.code pc = .ok (.iadd, 1)) (hv : x + y = v) (hq : pc + 1 = q) (K : Go p e below P T (mkF m q Ls (.int v :: st))) : Go p e below P T (mkF m pc Ls (.int y :: .int x :: st)) := by
  subst hq; exact K.back fun _ j => XS.iadd X.here hx rfl hd rfl (hv ▸ j)
theorem go_isub {x y v : Int32} (X : Stand p l e R s m args below meth c T locs cells slots) (hx : p.tables.exec = Jvm.exec) (hd : decode c.code pc = .ok (.isub, 1)) (hv : x - y = v) (hq : pc + 1 = q) (K : Go p e below P T (mkF m q Ls (.int v :: st))) : Go p e below P T (mkF m pc Ls (.int y :: .int x :: st)) := by
  subst hq; exact K.back fun _ j => XS.isub X.here hx rfl hd rfl (hv ▸ j)
theorem go_imul {x y v : Int32} (X : Stand p l e R s m args below meth c T locs cells slots) (hx : p.tables.exec = Jvm.exec) (hd : decode c.code pc = .ok (.imul, 1)) (hv : x * y = v) (hq : pc + 1 = q) (K : Go p e below P T (mkF m q Ls (.int v :: st))) : Go p e below P T (mkF m pc Ls (.int y :: .int x :: st)) := by
  subst hq; exact K.back fun _ j => XS.imul X.here hx rfl hd rfl (hv ▸ j)
theorem go_iand {x y v : Int32} (X : Stand p l e R s m args below meth c T locs cells slots) (hx : p.tables.exec = Jvm.exec) (hd : decode c.code pc = .ok (.iand, 1)) (hv : x &&& y = v) (hq : pc + 1 = q) (K : Go p e below P T (mkF m q Ls (.int v :: st))) : Go p e below P T (mkF m pc Ls (.int y :: .int x :: st)) := by
  subst hq; exact K.back fun _ j => XS.iand X.here hx rfl hd rfl (hv ▸ j)
theorem go_ior {x y v : Int32} (X : Stand p l e R s m args below meth c T locs cells slots) (hx : p.tables.exec = Jvm.exec) (hd : decode c.code pc = .ok (.ior, 1)) (hv : x ||| y = v) (hq : pc + 1 = q) (K : Go p e below P T (mkF m q Ls (.int v :: st))) : Go p e below P T (mkF m pc Ls (.int y :: .int x :: st)) := by
  subst hq; exact K.back fun _ j => XT.ior X.here hx rfl hd rfl (hv ▸ j)
theorem go_ixor {x y v : Int32} (X : Stand p l e R s m args below meth c T locs cells slots) (hx : p.tables.exec = Jvm.exec) (hd : decode c.code pc = .ok (.ixor, 1)) (hv : x ^^^ y = v) (hq : pc + 1 = q) (K : Go p e below P T (mkF m q Ls (.int v :: st))) : Go p e below P T (mkF m pc Ls (.int y :: .int x :: st)) := by
  subst hq; exact K.back fun _ j => XT.ixor X.here hx rfl hd rfl (hv ▸ j)
theorem go_ishl {x y v : Int32} (X : Stand p l e R s m args below meth c T locs cells slots) (hx : p.tables.exec = Jvm.exec) (hd : decode c.code pc = .ok (.ishl, 1)) (hv : x <<< (y &&& 31) = v) (hq : pc + 1 = q) (K : Go p e below P T (mkF m q Ls (.int v :: st))) : Go p e below P T (mkF m pc Ls (.int y :: .int x :: st)) := by
  subst hq; exact K.back fun _ j => XT.ishl X.here hx rfl hd rfl (hv ▸ j)
theorem go_ishr {x y v : Int32} (X : Stand p l e R s m args below meth c T locs cells slots) (hx : p.tables.exec = Jvm.exec) (hd : decode c.code pc = .ok (.ishr, 1)) (hv : x >>> (y &&& 31) = v) (hq : pc + 1 = q) (K : Go p e below P T (mkF m q Ls (.int v :: st))) : Go p e below P T (mkF m pc Ls (.int y :: .int x :: st)) := by
  subst hq; exact K.back fun _ j => XT.ishr X.here hx rfl hd rfl (hv ▸ j)
theorem go_iushr {x y v : Int32} (X : Stand p l e R s m args below meth c T locs cells slots) (hx : p.tables.exec = Jvm.exec) (hd : decode c.code pc = .ok (.iushr, 1)) (hv : XT.ushr x y = v) (hq : pc + 1 = q) (K : Go p e below P T (mkF m q Ls (.int v :: st))) : Go p e below P T (mkF m pc Ls (.int y :: .int x :: st)) := by
  subst hq; exact K.back fun _ j => XT.iushr X.here hx rfl hd rfl (hv ▸ j)
theorem go_irem {x y : Int32} (X : Stand p l e R s m args below meth c T locs cells slots) (hx : p.tables.exec = Jvm.exec) (hd : decode c.code pc = .ok (.irem, 1)) (hy : y ≠ 0) (hq : pc + 1 = q) (K : Go p e below P T (mkF m q Ls (.int (x % y) :: st))) : Go p e below P T (mkF m pc Ls (.int y :: .int x :: st)) := by
  subst hq; exact K.back fun _ j => RoadKit.iremM X hx rfl hd rfl hy j
theorem go_idiv {x y : Int32} (X : Stand p l e R s m args below meth c T locs cells slots) (hx : p.tables.exec = Jvm.exec) (hd : decode c.code pc = .ok (.idiv, 1)) (hy : y ≠ 0) (hq : pc + 1 = q) (K : Go p e below P T (mkF m q Ls (.int (x / y) :: st))) : Go p e below P T (mkF m pc Ls (.int y :: .int x :: st)) := by
  subst hq; exact K.back fun _ j => XS.idiv X.here hx rfl hd rfl hy j
theorem go_i2c {x v : Int32} (X : Stand p l e R s m args below meth c T locs cells slots) (hx : p.tables.exec = Jvm.exec) (hd : decode c.code pc = .ok (.i2c, 1)) (hv : x.toUInt32.toUInt16.toUInt32.toInt32 = v) (hq : pc + 1 = q) (K : Go p e below P T (mkF m q Ls (.int v :: st))) : Go p e below P T (mkF m pc Ls (.int x :: st)) := by
  subst hq; exact K.back fun _ j => XT.i2c X.here hx rfl hd rfl (hv ▸ j)
theorem go_i2b {x v : Int32} (X : Stand p l e R s m args below meth c T locs cells slots) (hx : p.tables.exec = Jvm.exec) (hd : decode c.code pc = .ok (.i2b, 1)) (hv : x.toInt8.toInt32 = v) (hq : pc + 1 = q) (K : Go p e below P T (mkF m q Ls (.int v :: st))) : Go p e below P T (mkF m pc Ls (.int x :: st)) := by
  subst hq; exact K.back fun _ j => XT.i2b X.here hx rfl hd rfl (hv ▸ j)
theorem go_i2l {x : Int32} (X : Stand p l e R s m args below meth c T locs cells slots) (hx : p.tables.exec = Jvm.exec) (hd : decode c.code pc = .ok (.i2l, 1))  (hq : pc + 1 = q) (K : Go p e below P T (mkF m q Ls (.long x.toInt64 :: st))) : Go p e below P T (mkF m pc Ls (.int x :: st)) := by
  subst hq; exact K.back fun _ j => XT.i2l X.here hx rfl hd rfl j
theorem go_ladd {x y : Int64} (X : Stand p l e R s m args below meth c T locs cells slots) (hx : p.tables.exec = Jvm.exec) (hd : decode c.code pc = .ok (.ladd, 1))  (hq : pc + 1 = q) (K : Go p e below P T (mkF m q Ls (.long (x + y) :: st))) : Go p e below P T (mkF m pc Ls (.long y :: .long x :: st)) := by
  subst hq; exact K.back fun _ j => XT.ladd X.here hx rfl hd rfl j
theorem go_lsub {x y : Int64} (X : Stand p l e R s m args below meth c T locs cells slots) (hx : p.tables.exec = Jvm.exec) (hd : decode c.code pc = .ok (.lsub, 1))  (hq : pc + 1 = q) (K : Go p e below P T (mkF m q Ls (.long (x - y) :: st))) : Go p e below P T (mkF m pc Ls (.long y :: .long x :: st)) := by
  subst hq; exact K.back fun _ j => XT.lsub X.here hx rfl hd rfl j
theorem go_lmul {x y : Int64} (X : Stand p l e R s m args below meth c T locs cells slots) (hx : p.tables.exec = Jvm.exec) (hd : decode c.code pc = .ok (.lmul, 1))  (hq : pc + 1 = q) (K : Go p e below P T (mkF m q Ls (.long (x * y) :: st))) : Go p e below P T (mkF m pc Ls (.long y :: .long x :: st)) := by
  subst hq; exact K.back fun _ j => XT.lmul X.here hx rfl hd rfl j
theorem go_land {x y : Int64} (X : Stand p l e R s m args below meth c T locs cells slots) (hx : p.tables.exec = Jvm.exec) (hd : decode c.code pc = .ok (.land, 1))  (hq : pc + 1 = q) (K : Go p e below P T (mkF m q Ls (.long (x &&& y) :: st))) : Go p e below P T (mkF m pc Ls (.long y :: .long x :: st)) := by
  subst hq; exact K.back fun _ j => XT.land X.here hx rfl hd rfl j
theorem go_lor {x y : Int64} (X : Stand p l e R s m args below meth c T locs cells slots) (hx : p.tables.exec = Jvm.exec) (hd : decode c.code pc = .ok (.lor, 1))  (hq : pc + 1 = q) (K : Go p e below P T (mkF m q Ls (.long (x ||| y) :: st))) : Go p e below P T (mkF m pc Ls (.long y :: .long x :: st)) := by
  subst hq; exact K.back fun _ j => XT.lor X.here hx rfl hd rfl j
theorem go_lxor {x y : Int64} (X : Stand p l e R s m args below meth c T locs cells slots) (hx : p.tables.exec = Jvm.exec) (hd : decode c.code pc = .ok (.lxor, 1))  (hq : pc + 1 = q) (K : Go p e below P T (mkF m q Ls (.long (x ^^^ y) :: st))) : Go p e below P T (mkF m pc Ls (.long y :: .long x :: st)) := by
  subst hq; exact K.back fun _ j => XT.lxor X.here hx rfl hd rfl j
theorem go_lshl {x : Int64} {y : Int32} (X : Stand p l e R s m args below meth c T locs cells slots) (hx : p.tables.exec = Jvm.exec) (hd : decode c.code pc = .ok (.lshl, 1))  (hq : pc + 1 = q) (K : Go p e below P T (mkF m q Ls (.long (x <<< (y.toInt64 &&& 63)) :: st))) : Go p e below P T (mkF m pc Ls (.int y :: .long x :: st)) := by
  subst hq; exact K.back fun _ j => XT.lshl X.here hx rfl hd rfl j
theorem go_lcmp {x y : Int64} (X : Stand p l e R s m args below meth c T locs cells slots) (hx : p.tables.exec = Jvm.exec) (hd : decode c.code pc = .ok (.lcmp, 1))  (hq : pc + 1 = q) (K : Go p e below P T (mkF m q Ls (.int (XT.cmpL x y) :: st))) : Go p e below P T (mkF m pc Ls (.long y :: .long x :: st)) := by
  subst hq; exact K.back fun _ j => XT.lcmp X.here hx rfl hd rfl j
theorem go_dload_n {k : Fin 4} {v : UInt64} (X : Stand p l e R s m args below meth c T locs cells slots) (hx : p.tables.exec = Jvm.exec) (hd : decode c.code pc = .ok (.dload_n k, 1)) (hl : Ls[k.val]? = some (.val (.double v))) (hq : pc + 1 = q) (K : Go p e below P T (mkF m q Ls (.double v :: st))) : Go p e below P T (mkF m pc Ls st) := by
  subst hq; exact K.back fun _ j => XS.dloadN X.here hx rfl hd hl j
theorem go_dload {k : Nat} {v : UInt64} (X : Stand p l e R s m args below meth c T locs cells slots) (hx : p.tables.exec = Jvm.exec) (hd : decode c.code pc = .ok (.dload k, 2)) (hl : Ls[k]? = some (.val (.double v))) (hq : pc + 2 = q) (K : Go p e below P T (mkF m q Ls (.double v :: st))) : Go p e below P T (mkF m pc Ls st) := by
  subst hq; exact K.back fun _ j => XS.dload X.here hx rfl hd hl j
theorem go_dstore_n {k : Fin 4} {x : UInt64} (X : Stand p l e R s m args below meth c T locs cells slots) (hx : p.tables.exec = Jvm.exec) (hd : decode c.code pc = .ok (.dstore_n k, 1)) (hl : storeLocals Ls k.val (.double x) = some l') (hq : pc + 1 = q) (K : Go p e below P T (mkF m q l' st)) : Go p e below P T (mkF m pc Ls (.double x :: st)) := by
  subst hq; exact K.back fun _ j => XS.dstoreN X.here hx rfl hd rfl hl j
theorem go_dstore {k : Nat} {x : UInt64} (X : Stand p l e R s m args below meth c T locs cells slots) (hx : p.tables.exec = Jvm.exec) (hd : decode c.code pc = .ok (.dstore k, 2)) (hl : storeLocals Ls k (.double x) = some l') (hq : pc + 2 = q) (K : Go p e below P T (mkF m q l' st)) : Go p e below P T (mkF m pc Ls (.double x :: st)) := by
  subst hq; exact K.back fun _ j => XS.dstore X.here hx rfl hd rfl hl j
theorem go_dconst0 {v : UInt64} (X : Stand p l e R s m args below meth c T locs cells slots) (hx : p.tables.exec = Jvm.exec) (hd : decode c.code pc = .ok (.dconst 0, 1)) (hv : FP.dconst0 = v) (hq : pc + 1 = q) (K : Go p e below P T (mkF m q Ls (.double v :: st))) : Go p e below P T (mkF m pc Ls st) := by
  subst hq; exact K.back fun _ j => XS.dconst0 X.here hx rfl hd hv j
theorem go_dconst1 {v : UInt64} (X : Stand p l e R s m args below meth c T locs cells slots) (hx : p.tables.exec = Jvm.exec) (hd : decode c.code pc = .ok (.dconst 1, 1)) (hv : FP.dconst1 = v) (hq : pc + 1 = q) (K : Go p e below P T (mkF m q Ls (.double v :: st))) : Go p e below P T (mkF m pc Ls st) := by
  subst hq; exact K.back fun _ j => XS.dconst1 X.here hx rfl hd hv j
theorem go_i2d {x : Int32} (X : Stand p l e R s m args below meth c T locs cells slots) (hx : p.tables.exec = Jvm.exec) (hd : decode c.code pc = .ok (.i2d, 1))  (hq : pc + 1 = q) (K : Go p e below P T (mkF m q Ls (.double (FP.i2d x) :: st))) : Go p e below P T (mkF m pc Ls (.int x :: st)) := by
  subst hq; exact K.back fun _ j => XS.i2dS X.here hx rfl hd rfl rfl j
theorem go_dcmp {o : CmpOp} {x y : UInt64} (X : Stand p l e R s m args below meth c T locs cells slots) (hx : p.tables.exec = Jvm.exec) (hd : decode c.code pc = .ok (.dcmp o, 1))  (hq : pc + 1 = q) (K : Go p e below P T (mkF m q Ls (.int (cmpValue (FP.dcmp x y) o) :: st))) : Go p e below P T (mkF m pc Ls (.double y :: .double x :: st)) := by
  subst hq; exact K.back fun _ j => XS.dcmpS X.here hx rfl hd rfl rfl j
theorem go_ddiv {x y : UInt64} (X : Stand p l e R s m args below meth c T locs cells slots) (hx : p.tables.exec = Jvm.exec) (hd : decode c.code pc = .ok (.ddiv, 1)) (hn : Jvm.Free.Fl.NoNaN64 (FP.ddiv x y)) (hq : pc + 1 = q) (K : Go p e below P T (mkF m q Ls (.double (FP.ddiv x y) :: st))) : Go p e below P T (mkF m pc Ls (.double y :: .double x :: st)) := by
  subst hq; exact K.back fun _ j => XS.ddivS X.here hx rfl hd rfl hn rfl j
theorem go_iinc {k : Nat} {cst : Int} {x v : Int32} (X : Stand p l e R s m args below meth c T locs cells slots) (hx : p.tables.exec = Jvm.exec) (hd : decode c.code pc = .ok (.iinc k cst, 3)) (hl : Ls[k]? = some (.val (.int x))) (hv : x + Int32.ofInt cst = v) (hl' : storeLocals Ls k (.int v) = some l') (hq : pc + 3 = q) (K : Go p e below P T (mkF m q l' st)) : Go p e below P T (mkF m pc Ls st) := by
  subst hq; exact K.back fun _ j => XS.iinc X.here hx rfl hd hl (by rw [hv]; exact hl') j
theorem go_dup {x : Value} (X : Stand p l e R s m args below meth c T locs cells slots) (hx : p.tables.exec = Jvm.exec) (hd : decode c.code pc = .ok (.dup, 1)) (hc : x.category = 1) (hq : pc + 1 = q) (K : Go p e below P T (mkF m q Ls (x :: x :: st))) : Go p e below P T (mkF m pc Ls (x :: st)) := by
  subst hq; exact K.back fun _ j => XS.dup X.here hx rfl hd rfl hc j
theorem go_dup_x1 {x y : Value} (X : Stand p l e R s m args below meth c T locs cells slots) (hx : p.tables.exec = Jvm.exec) (hd : decode c.code pc = .ok (.dup_x1, 1)) (hc : x.category = 1) (hc' : y.category = 1) (hq : pc + 1 = q) (K : Go p e below P T (mkF m q Ls (x :: y :: x :: st))) : Go p e below P T (mkF m pc Ls (x :: y :: st)) := by
  subst hq; exact K.back fun _ j => XT.dupX1 X.here hx rfl hd rfl hc hc' j
theorem go_pop {x : Value} (X : Stand p l e R s m args below meth c T locs cells slots) (hx : p.tables.exec = Jvm.exec) (hd : decode c.code pc = .ok (.pop, 1)) (hc : x.category = 1) (hq : pc + 1 = q) (K : Go p e below P T (mkF m q Ls st)) : Go p e below P T (mkF m pc Ls (x :: st)) := by
  subst hq; exact K.back fun _ j => XT.pop X.here hx rfl hd rfl hc j
theorem go_ifN {cd : ClassFile.Cond} {o : Int} {x : Int32} (X : Stand p l e R s m args below meth c T locs cells slots) (hx : p.tables.exec = Jvm.exec) (hd : decode c.code pc = .ok (.ifCond cd o, 3)) (hc : ifCond.holds cd x = false) (hq : pc + 3 = q) (K : Go p e below P T (mkF m q Ls st)) : Go p e below P T (mkF m pc Ls (.int x :: st)) := by
  subst hq; exact K.back fun _ j => XS.ifNo X.here hx rfl hd rfl hc j
theorem go_icmpN {cd : ClassFile.Cond} {o : Int} {x y : Int32} (X : Stand p l e R s m args below meth c T locs cells slots) (hx : p.tables.exec = Jvm.exec) (hd : decode c.code pc = .ok (.if_icmp cd o, 3)) (hc : if_icmp.holds cd x y = false) (hq : pc + 3 = q) (K : Go p e below P T (mkF m q Ls st)) : Go p e below P T (mkF m pc Ls (.int y :: .int x :: st)) := by
  subst hq; exact K.back fun _ j => XS.icmpNo X.here hx rfl hd rfl hc j
theorem go_ifnullN {o : Int} {b : Addr} (X : Stand p l e R s m args below meth c T locs cells slots) (hx : p.tables.exec = Jvm.exec) (hd : decode c.code pc = .ok (.ifnull o, 3))  (hq : pc + 3 = q) (K : Go p e below P T (mkF m q Ls st)) : Go p e below P T (mkF m pc Ls (.ref b :: st)) := by
  subst hq; exact K.back fun _ j => XS.ifnullNo X.here hx rfl hd rfl j
theorem go_ifnonnullN {o : Int} (X : Stand p l e R s m args below meth c T locs cells slots) (hx : p.tables.exec = Jvm.exec) (hd : decode c.code pc = .ok (.ifnonnull o, 3))  (hq : pc + 3 = q) (K : Go p e below P T (mkF m q Ls st)) : Go p e below P T (mkF m pc Ls (.null :: st)) := by
  subst hq; exact K.back fun _ j => XT.ifnonnullNo X.here hx rfl hd rfl j
theorem go_goto  {o : Int} (X : Stand p l e R s m args below meth c T locs cells slots) (hx : p.tables.exec = Jvm.exec) (hd : decode c.code pc = .ok (.goto o, 3))  (ho : 0 ≤ (pc : Int) + o) (hq : ((pc : Int) + o).toNat = q) (K : Go p e below P T (mkF m q Ls st)) : Go p e below P T (mkF m pc Ls st) :=
  K.back fun _ j => XS.goto X.here hx rfl (pc0 := pc) rfl hd ho hq j
theorem go_ifY {cd : ClassFile.Cond} {x : Int32} {o : Int} (X : Stand p l e R s m args below meth c T locs cells slots) (hx : p.tables.exec = Jvm.exec) (hd : decode c.code pc = .ok (.ifCond cd o, 3)) (hc : ifCond.holds cd x = true) (ho : 0 ≤ (pc : Int) + o) (hq : ((pc : Int) + o).toNat = q) (K : Go p e below P T (mkF m q Ls st)) : Go p e below P T (mkF m pc Ls (.int x :: st)) :=
  K.back fun _ j => XS.ifYes X.here hx rfl (pc0 := pc) rfl hd rfl hc ho hq j
theorem go_icmpY {cd : ClassFile.Cond} {x y : Int32} {o : Int} (X : Stand p l e R s m args below meth c T locs cells slots) (hx : p.tables.exec = Jvm.exec) (hd : decode c.code pc = .ok (.if_icmp cd o, 3)) (hc : if_icmp.holds cd x y = true) (ho : 0 ≤ (pc : Int) + o) (hq : ((pc : Int) + o).toNat = q) (K : Go p e below P T (mkF m q Ls st)) : Go p e below P T (mkF m pc Ls (.int y :: .int x :: st)) :=
  K.back fun _ j => XS.icmpYes X.here hx rfl (pc0 := pc) rfl hd rfl hc ho hq j
theorem go_ifnullY  {o : Int} (X : Stand p l e R s m args below meth c T locs cells slots) (hx : p.tables.exec = Jvm.exec) (hd : decode c.code pc = .ok (.ifnull o, 3))  (ho : 0 ≤ (pc : Int) + o) (hq : ((pc : Int) + o).toNat = q) (K : Go p e below P T (mkF m q Ls st)) : Go p e below P T (mkF m pc Ls (.null :: st)) :=
  K.back fun _ j => XS.ifnullYes X.here hx rfl (pc0 := pc) rfl hd rfl ho hq j
theorem go_ifnonnullY {b : Addr} {o : Int} (X : Stand p l e R s m args below meth c T locs cells slots) (hx : p.tables.exec = Jvm.exec) (hd : decode c.code pc = .ok (.ifnonnull o, 3))  (ho : 0 ≤ (pc : Int) + o) (hq : ((pc : Int) + o).toNat = q) (K : Go p e below P T (mkF m q Ls st)) : Go p e below P T (mkF m pc Ls (.ref b :: st)) :=
  K.back fun _ j => XT.ifnonnullYes X.here hx rfl (pc0 := pc) rfl hd rfl ho hq j
theorem go_ldcI {v : Int32} {own : String} {index : Nat} (X : Stand p l e R s m args below meth c T locs cells slots) (hx : p.tables.exec = Jvm.exec) (hZ : Z.Warmed39 s.vm) (hown : s.vm.findClass own = some m.cls) (w : (Cond.constant own index v).before a0 Z = true) (hd : decode c.code pc = .ok (.ldc index, 2)) (hq : pc + 2 = q) (K : Go p e below P T (mkF m q Ls (.int v :: st))) : Go p e below P T (mkF m pc Ls st) := by
  subst hq; exact K.back fun _ k => X.ldcI hx hown (mvT hZ w) rfl hd k
theorem go_ldc2J {v : Int64} {own : String} {index : Nat} (X : Stand p l e R s m args below meth c T locs cells slots) (hx : p.tables.exec = Jvm.exec) (hZ : Z.Warmed39 s.vm) (hown : s.vm.findClass own = some m.cls) (w : (Cond.constantLong own index v).before a0 Z = true) (hd : decode c.code pc = .ok (.ldc2_w index, 3)) (hq : pc + 3 = q) (K : Go p e below P T (mkF m q Ls (.long v :: st))) : Go p e below P T (mkF m pc Ls st) := by
  subst hq; exact K.back fun _ k => X.ldc2J hx hown (mvT hZ w) rfl hd k
theorem go_ldc2D {v : UInt64} {own : String} {index : Nat} (X : Stand p l e R s m args below meth c T locs cells slots) (hx : p.tables.exec = Jvm.exec) (hZ : Z.Warmed39 s.vm) (hown : s.vm.findClass own = some m.cls) (w : (Cond.constantDouble own index v).before a0 Z = true) (hd : decode c.code pc = .ok (.ldc2_w index, 3)) (hq : pc + 3 = q) (K : Go p e below P T (mkF m q Ls (.double v :: st))) : Go p e below P T (mkF m pc Ls st) := by
  subst hq; exact K.back fun t k => X.ldc2DoubleC hx hown (mvT hZ w) (g := mkF m pc Ls st) rfl hd t k
theorem own_narb (x : Int32) : nar .byte x.toInt8.toInt32 = x.toInt8.toInt32 := by simp [nar]
theorem own_eqI {first s : State} {o : Option Outcome} {idx : List Nat} {t : Term} {k : Int32} (h : (Cond.eq t (Term.int k)).value args first o s idx = some true) : t.eval args first o idx s = some (.int k) := by
  simp only [Cond.value, Term.eval] at h
  cases ht : t.eval args first o idx s with
  | none => simp [ht] at h
  | some x => cases x <;> simp [ht] at h ⊢; exact h
theorem own_eqR {first s : State} {o : Option Outcome} {idx : List Nat} {t u : Term} {b : Addr} (h : (Cond.eq t u).value args first o s idx = some true) (hu : u.eval args first o idx s = some (.ref b)) : t.eval args first o idx s = some (.ref b) := by
  simp only [Cond.value, hu] at h
  cases ht : t.eval args first o idx s with
  | none => simp [ht] at h
  | some x => cases x <;> simp [ht] at h ⊢; exact h
theorem own_narR {t : FieldType} {v : Value} (h : v.isRef = true) (ht : t.isReference = true) : narrow t v = v := by cases v <;> simp [Value.isRef] at h <;> cases t <;> first | rfl | (simp [FieldType.isReference] at ht)
theorem own_fitR {t : FieldType} {v : Value} (h : v.isRef = true) (ht : t.isReference = true) : fits t v = true := by cases v <;> simp [Value.isRef] at h <;> cases t <;> first | rfl | (simp [FieldType.isReference] at ht)
theorem go_cast1 {own KK : String} {index : Nat} {a : Addr} (X : Stand p l e R s m args below meth c T locs cells slots) (hx : p.tables.exec = Jvm.exec) (hZ : Z.Warmed39 s.vm) (hown : s.vm.findClass own = some m.cls) (w : (Cond.classLink own index KK).before a0 Z = true) (eT : T.heap = h) (F : Ins Z h a KK true) (hd : decode c.code pc = .ok (.checkcast index, 3)) (hq : pc + 3 = q)
    (K : ∀ T', Stand p l e R s m args below meth c T' locs cells slots → T'.heap = h → Go p e below P T' (mkF m q Ls (.ref a :: st))) : Go p e below P T (mkF m pc Ls (.ref a :: st)) := by
  subst hq
  obtain ⟨T', X', e', k⟩ := castY X hx hZ hown w eT F (g := mkF m pc Ls (.ref a :: st)) rfl rfl hd
  exact (K T' X' e').back k
theorem go_acmp {cd : ACond} {x y : Value} {o : Int} {same : Bool} (X : Stand p l e R s m args below meth c T locs cells slots) (hx : p.tables.exec = Jvm.exec) (hd : decode c.code pc = .ok (.if_acmp cd o, 3)) (h1 : x.isRef = true) (h2 : y.isRef = true) (hq : decide (x = y) = same) (ho : 0 ≤ (pc : Int) + o) (hp : q = if acV cd same = true then ((pc : Int) + o).toNat else pc + 3)
    (K : Go p e below P T (mkF m q Ls st)) : Go p e below P T (mkF m pc Ls (y :: x :: st)) :=
  K.back fun _ k => RoadKit.acmp X hx rfl h1 h2 rfl hd rfl hq ho hp k
theorem go_getF {own R0 O n d host : String} {index : Nat} {a : Addr} {v : Value} (X : Stand p l e R s m args below meth c T locs cells slots) (hx : p.tables.exec = Jvm.exec) (hZ : Z.Warmed39 s.vm) (hown : s.vm.findClass own = some m.cls) (w : (Cond.fieldLink own index R0 n d).before a0 Z = true ∨ (Cond.fieldLinkNest own index R0 n d host).before a0 Z = true) (via : Via Z R0 O n d) (eT : T.heap = h) (F : Fld Z h a O n d v) (hd : decode c.code pc = .ok (.getfield index, 3)) (hq : pc + 3 = q)
    (K : ∀ T', Stand p l e R s m args below meth c T' locs cells slots → T'.heap = h → Go p e below P T' (mkF m q Ls (v :: st))) : Go p e below P T (mkF m pc Ls (.ref a :: st)) := by
  subst hq
  obtain ⟨T', X', e', k⟩ := getF X hx hZ hown w via eT F (g := mkF m pc Ls (.ref a :: st)) rfl rfl hd
  exact (K T' X' e').back k
theorem go_getS {own R0 O n d host : String} {index : Nat} {v : Value} (X : Stand p l e R s m args below meth c T locs cells slots) (hx : p.tables.exec = Jvm.exec) (hZ : Z.Warmed39 s.vm) (hown : s.vm.findClass own = some m.cls) (w : (Cond.fieldLink own index R0 n d).before a0 Z = true ∨ (Cond.fieldLinkNest own index R0 n d host).before a0 Z = true) (via : Via Z R0 O n d) (eT : T.heap = h) (F : Sta Z h O n d v) (hd : decode c.code pc = .ok (.getstatic index, 3)) (hq : pc + 3 = q)
    (K : ∀ T', Stand p l e R s m args below meth c T' locs cells slots → T'.heap = h → Go p e below P T' (mkF m q Ls (v :: st))) : Go p e below P T (mkF m pc Ls st) := by
  subst hq
  obtain ⟨T', X', e', k⟩ := getS2 X hx hZ hown w via eT F (g := mkF m pc Ls st) rfl hd
  exact (K T' X' e').back k
theorem go_putF {own R0 O n d host C : String} {index kk : Nat} {ty : FieldType} {a : Addr} {v old : Value} (X : Stand p l e R s m args below meth c T locs cells slots) (hx : p.tables.exec = Jvm.exec) (hZ : Z.Warmed39 s.vm) (hown : s.vm.findClass own = some m.cls) (w : (Cond.fieldLink own index R0 n d).before a0 Z = true ∨ (Cond.fieldLinkNest own index R0 n d host).before a0 Z = true) (via : Via Z R0 O n d)
    (eT : T.heap = h) (F : Fld Z h a O n d old) (E : Exa Z h a C) (L : (Cond.lays C O n d).before a0 Z = true ∨ ((Cond.laysFinal C O n d).before a0 Z = true ∧ own = O ∧ meth.name = "<init>")) (wi : (Cond.instantiable C kk).before a0 Z = true)
    (hty : parseFieldDescriptor d = some ty) (hn : narrow ty v = v) (hf : fits ty v = true) (hd : decode c.code pc = .ok (.putfield index, 3)) (hq : pc + 3 = q)
    (K : ∀ T' h', Stand p l e R s m args below meth c T' (locs ++ [⟨a, RoadKit.slotOf Z O n d⟩]) cells slots → T'.heap = h' → Wr h h' a (RoadKit.slotOf Z O n d) v → Go p e below P T' (mkF m q Ls st)) : Go p e below P T (mkF m pc Ls (v :: .ref a :: st)) := by
  subst hq
  obtain ⟨T', h', X', e', W, k⟩ := putF X hx hZ hown w via eT F E L wi hty hn hf (g := mkF m pc Ls (v :: .ref a :: st)) rfl rfl hd
  exact (K T' h' X' e' W).back k
theorem go_new {own C : String} {index n : Nat} (X : Stand p l e R s m args below meth c T locs cells slots) (hx : p.tables.exec = Jvm.exec) (hZ : Z.Warmed39 s.vm) (hown : s.vm.findClass own = some m.cls) (w : (Cond.classLink own index C).before a0 Z = true) (wi : (Cond.instantiable C n).before a0 Z = true) (wz : (Cond.initialized C).before a0 Z = true) (eT : T.heap = h) (hd : decode c.code pc = .ok (.new index, 3)) (hc : cells + 1 ≤ R.cells) (hl : slots + n ≤ R.slots) (hq : pc + 3 = q)
    (K : ∀ T' h' a, a = h.size → Stand p l e R s m args below meth c T' locs (cells + 1) (slots + n) → T'.heap = h' → Ext h h' → Exa Z h' a C → (∀ {O nm d : String} {ty : FieldType}, Laid Z a0 C O nm d → parseFieldDescriptor d = some ty → Fld Z h' a O nm d (defaultValue ty)) → Go p e below P T' (mkF m q Ls (.ref a :: st))) : Go p e below P T (mkF m pc Ls st) := by
  subst hq
  obtain ⟨T', h', X', e', E, A, D, -, k⟩ := newO X hx hZ hown w wi wz eT (g := mkF m pc Ls st) rfl hd hc hl
  exact (K T' h' _ rfl X' e' E A D).back k
theorem go_initO {own : String} {idx W : Nat} {a : Addr} (X : Stand p l e R s m args below meth c T locs cells slots) (hx : p.tables.exec = Jvm.exec) (hZ : Z.Warmed39 s.vm) (hown : s.vm.findClass own = some m.cls) (w1 : (Cond.methodLink own idx Lib.objectInit).before a0 Z = true) (w2 : (Cond.instanceMethod Lib.objectInit).before a0 Z = true)
    (w3 : (Cond.code Lib.objectInit ⟨#[0xb1]⟩ 1 none).before a0 Z = true) (eT : T.heap = h) (hml : Ls.size = c.maxLocals) (hd : decode c.code pc = .ok (.invokespecial idx, 3)) (hf : 1 ≤ R.frames) (hW : (st.map fun v => v.category).sum ≤ W) (hl : W + 12 ≤ R.locals) (hq : pc + 3 = q)
    (K : ∀ T', Stand p l e R s m args below meth c T' locs cells slots → T'.heap = h → Go p e below P T' (mkF m q Ls st)) : Go p e below P T (mkF m pc Ls (.ref a :: st)) := by
  subst hq
  obtain ⟨T', X', e', k⟩ := initO X hx hZ hown w1 w2 w3 eT (g := mkF m pc Ls (.ref a :: st)) rfl hml rfl hd hf (W := W) (by show 2 * 0 + _ ≤ _; omega) hl
  exact (K T' X' e').back k
theorem go_alen {a : Addr} {k : ClassId} {ty : FieldType} {n : Int32} {vs : List Value} {dv : Value} (X : Stand p l e R s m args below meth c T locs cells slots) (hx : p.tables.exec = Jvm.exec) (hZ : Z.Warmed39 s.vm) (eT : T.heap = h) (F : Arv Z h a k ty n vs dv) (hd : decode c.code pc = .ok (.arraylength, 1)) (hq : pc + 1 = q) (K : Go p e below P T (mkF m q Ls (.int n :: st))) : Go p e below P T (mkF m pc Ls (.ref a :: st)) := by
  subst hq
  obtain ⟨cl, A, e1, S, nz, H, G⟩ := F
  exact K.back fun t j => X.arraylength hx (by rw [eT]; exact A.1) (State.isArrayOf_alike hZ.alike A.2.1) (g := mkF m pc Ls (.ref a :: st)) rfl rfl hd t (by rw [len_of S nz]; exact j)
theorem go_newP {aty : ArrayType} {ty : FieldType} {n : Int32} {cap : Nat} {vs : List Value} {dv : Value} (X : Stand p l e R s m args below meth c T locs cells slots) (hx : p.tables.exec = Jvm.exec) (hZ : Z.Warmed39 s.vm) (hty : newarray.typeOf aty = ty) (w : (Cond.arrayClass ty).before a0 Z = true) (eT : T.heap = h) (hd : decode c.code pc = .ok (.newarray aty, 2)) (hn : ¬ n < 0) (hcap : n.toNatClampNeg ≤ cap) (hb : cap * 8 ≤ 536870912) (hc : cells + 1 ≤ R.cells) (hl : slots + cap ≤ R.slots) (hdv : defaultValue ty = dv) (hvs : List.replicate cap dv = vs) (hq : pc + 2 = q)
    (K : ∀ T' h' a k, a = h.size → Stand p l e R s m args below meth c T' locs (cells + 1) (slots + cap) → T'.heap = h' → Ext h h' → Arv Z h' a k ty n vs dv → Go p e below P T' (mkF m q Ls (.ref a :: st))) : Go p e below P T (mkF m pc Ls (.int n :: st)) := by
  subst hq hty hdv hvs
  obtain ⟨T', h', cA, X', e', E, A, k⟩ := newP X hx hZ w eT (g := mkF m pc Ls (.int n :: st)) rfl hd rfl hn hcap hb hc hl
  exact (K T' h' _ cA rfl X' e' E ((Arv.new A hn).pad (pad_rep [] _ cap))).back k
theorem go_iaload {a : Addr} {k : ClassId} {n j : Int32} {vs : List Value} {dv v : Value} (X : Stand p l e R s m args below meth c T locs cells slots) (hx : p.tables.exec = Jvm.exec) (hZ : Z.Warmed39 s.vm) (eT : T.heap = h) (F : Arv Z h a k .int n vs dv) (hj : ¬ j < 0 ∧ j < n) (hv : vs.getD j.toNatClampNeg dv = v) (hd : decode c.code pc = .ok (.iaload, 1)) (hq : pc + 1 = q) (K : Go p e below P T (mkF m q Ls (v :: st))) : Go p e below P T (mkF m pc Ls (.int j :: .ref a :: st)) := by
  subst hq
  obtain ⟨cl, A, e1, S, nz, H, G⟩ := F
  exact K.back fun t i => X.iaload hx (by rw [eT]; exact A.1) (State.isArrayOf_alike hZ.alike A.2.1) A.2.2 (inb_of S hj) (H.at (inb_of S hj) hv) (g := mkF m pc Ls (.int j :: .ref a :: st)) rfl rfl hd t i
theorem go_caload {a : Addr} {k : ClassId} {n j : Int32} {vs : List Value} {dv v : Value} (X : Stand p l e R s m args below meth c T locs cells slots) (hx : p.tables.exec = Jvm.exec) (hZ : Z.Warmed39 s.vm) (eT : T.heap = h) (F : Arv Z h a k .char n vs dv) (hj : ¬ j < 0 ∧ j < n) (hv : vs.getD j.toNatClampNeg dv = v) (hd : decode c.code pc = .ok (.caload, 1)) (hq : pc + 1 = q) (K : Go p e below P T (mkF m q Ls (v :: st))) : Go p e below P T (mkF m pc Ls (.int j :: .ref a :: st)) := by
  subst hq
  obtain ⟨cl, A, e1, S, nz, H, G⟩ := F
  exact K.back fun t i => X.caload hx (by rw [eT]; exact A.1) (State.isArrayOf_alike hZ.alike A.2.1) A.2.2 (inb_of S hj) (H.at (inb_of S hj) hv) (g := mkF m pc Ls (.int j :: .ref a :: st)) rfl rfl hd t i
theorem go_baload {a : Addr} {k : ClassId} {n j : Int32} {vs : List Value} {dv v : Value} (X : Stand p l e R s m args below meth c T locs cells slots) (hx : p.tables.exec = Jvm.exec) (hZ : Z.Warmed39 s.vm) (eT : T.heap = h) (F : Arv Z h a k .byte n vs dv) (hj : ¬ j < 0 ∧ j < n) (hv : vs.getD j.toNatClampNeg dv = v) (hd : decode c.code pc = .ok (.baload, 1)) (hq : pc + 1 = q) (K : Go p e below P T (mkF m q Ls (v :: st))) : Go p e below P T (mkF m pc Ls (.int j :: .ref a :: st)) := by
  subst hq
  obtain ⟨cl, A, e1, S, nz, H, G⟩ := F
  exact K.back fun t i => X.baloadBytes hx (by rw [eT]; exact A.1) (State.isArrayOf_alike hZ.alike A.2.1) A.2.2 (inb_of S hj) (H.at (inb_of S hj) hv) (g := mkF m pc Ls (.int j :: .ref a :: st)) rfl rfl hd t i
theorem go_daload {a : Addr} {k : ClassId} {n j : Int32} {vs : List Value} {dv v : Value} (X : Stand p l e R s m args below meth c T locs cells slots) (hx : p.tables.exec = Jvm.exec) (hZ : Z.Warmed39 s.vm) (eT : T.heap = h) (F : Arv Z h a k .double n vs dv) (hj : ¬ j < 0 ∧ j < n) (hv : vs.getD j.toNatClampNeg dv = v) (hd : decode c.code pc = .ok (.daload, 1)) (hq : pc + 1 = q) (K : Go p e below P T (mkF m q Ls (v :: st))) : Go p e below P T (mkF m pc Ls (.int j :: .ref a :: st)) := by
  subst hq
  obtain ⟨cl, A, e1, S, nz, H, G⟩ := F
  exact K.back fun t i => X.daload hx (by rw [eT]; exact A.1) (State.isArrayOf_alike hZ.alike A.2.1) A.2.2 (inb_of S hj) (H.at (inb_of S hj) hv) (g := mkF m pc Ls (.int j :: .ref a :: st)) rfl rfl hd t i
theorem go_aaload {a : Addr} {k : ClassId} {ty : FieldType} {n j : Int32} {vs : List Value} {dv v : Value} (X : Stand p l e R s m args below meth c T locs cells slots) (hx : p.tables.exec = Jvm.exec) (hZ : Z.Warmed39 s.vm) (eT : T.heap = h) (F : Arv Z h a k ty n vs dv) (hty : ty.isReference = true) (hj : ¬ j < 0 ∧ j < n) (hv : vs.getD j.toNatClampNeg dv = v) (hd : decode c.code pc = .ok (.aaload, 1)) (hq : pc + 1 = q) (K : Go p e below P T (mkF m q Ls (v :: st))) : Go p e below P T (mkF m pc Ls (.int j :: .ref a :: st)) := by
  subst hq
  obtain ⟨cl, A, e1, S, nz, H, G⟩ := F
  exact K.back fun t i => X.aaload hx (by rw [eT]; exact A.1) (State.isArrayOf_alike hZ.alike A.2.1) hty A.2.2 (inb_of S hj) (H.at (inb_of S hj) hv) (g := mkF m pc Ls (.int j :: .ref a :: st)) rfl rfl hd t i
theorem go_castore {a : Addr} {k : ClassId} {n j x x' : Int32} {i : Nat} {vs vs' : List Value} {dv : Value} (X : Stand p l e R s m args below meth c T locs cells slots) (hx : p.tables.exec = Jvm.exec) (hZ : Z.Warmed39 s.vm) (eT : T.heap = h) (F : Arv Z h a k .char n vs dv) (hj : ¬ j < 0 ∧ j < n) (hi : j.toNatClampNeg = i) (hl : i < vs.length) (hn : nar .char x = x') (hvs : vs.set i (.int x') = vs') (hd : decode c.code pc = .ok (.castore, 1)) (hq : pc + 1 = q)
    (K : ∀ T' h', Stand p l e R s m args below meth c T' (locs ++ [⟨a, j.toNatClampNeg⟩]) cells slots → T'.heap = h' → Wr h h' a j.toNatClampNeg (.int x') → Arv Z h' a k .char n vs' dv → Go p e below P T' (mkF m q Ls st)) : Go p e below P T (mkF m pc Ls (.int x :: .int j :: .ref a :: st)) := by
  subst hq hn hvs
  obtain ⟨cl, A, e1, S, nz, H, G⟩ := F
  obtain ⟨T', h', X', e', W, k⟩ := stC X hx hZ eT A (inb_of S hj) (g := mkF m pc Ls (.int x :: .int j :: .ref a :: st)) rfl rfl hd
  exact (K T' h' X' e' W (Arv.set A e1 S nz H G (fits_nar_char _) W i hi hl)).back k
theorem go_bastore {a : Addr} {k : ClassId} {n j x x' : Int32} {i : Nat} {vs vs' : List Value} {dv : Value} (X : Stand p l e R s m args below meth c T locs cells slots) (hx : p.tables.exec = Jvm.exec) (hZ : Z.Warmed39 s.vm) (eT : T.heap = h) (F : Arv Z h a k .byte n vs dv) (hj : ¬ j < 0 ∧ j < n) (hi : j.toNatClampNeg = i) (hl : i < vs.length) (hn : nar .byte x = x') (hvs : vs.set i (.int x') = vs') (hd : decode c.code pc = .ok (.bastore, 1)) (hq : pc + 1 = q)
    (K : ∀ T' h', Stand p l e R s m args below meth c T' (locs ++ [⟨a, j.toNatClampNeg⟩]) cells slots → T'.heap = h' → Wr h h' a j.toNatClampNeg (.int x') → Arv Z h' a k .byte n vs' dv → Go p e below P T' (mkF m q Ls st)) : Go p e below P T (mkF m pc Ls (.int x :: .int j :: .ref a :: st)) := by
  subst hq hn hvs
  obtain ⟨cl, A, e1, S, nz, H, G⟩ := F
  obtain ⟨T', h', X', e', W, k⟩ := stB X hx hZ eT A (inb_of S hj) (g := mkF m pc Ls (.int x :: .int j :: .ref a :: st)) rfl rfl hd
  exact (K T' h' X' e' W (Arv.set A e1 S nz H G (fits_nar_byte _) W i hi hl)).back k
theorem go_dastore {a : Addr} {k : ClassId} {n j : Int32} {x : UInt64} {i : Nat} {vs vs' : List Value} {dv : Value} (X : Stand p l e R s m args below meth c T locs cells slots) (hx : p.tables.exec = Jvm.exec) (hZ : Z.Warmed39 s.vm) (eT : T.heap = h) (F : Arv Z h a k .double n vs dv) (hj : ¬ j < 0 ∧ j < n) (hi : j.toNatClampNeg = i) (hl : i < vs.length) (hvs : vs.set i (.double x) = vs') (hd : decode c.code pc = .ok (.dastore, 1)) (hq : pc + 1 = q)
    (K : ∀ T' h', Stand p l e R s m args below meth c T' (locs ++ [⟨a, j.toNatClampNeg⟩]) cells slots → T'.heap = h' → Wr h h' a j.toNatClampNeg (.double x) → Arv Z h' a k .double n vs' dv → Go p e below P T' (mkF m q Ls st)) : Go p e below P T (mkF m pc Ls (.double x :: .int j :: .ref a :: st)) := by
  subst hq hvs
  obtain ⟨cl, A, e1, S, nz, H, G⟩ := F
  obtain ⟨T', h', X', e', W, k⟩ := stD X hx hZ eT A (inb_of S hj) (g := mkF m pc Ls (.double x :: .int j :: .ref a :: st)) rfl rfl hd
  exact (K T' h' X' e' W (Arv.set A e1 S nz H G rfl W i hi hl)).back k
variable {y z : MethodName} {bytes : ByteArray} {maxL : Nat} {ret : Option FieldType} {rm : Room} {as' : Array Value} {Qc : Option Value → Heap → List Loc → Prop} {own CL : String} {index W : Nat}
theorem Con.pays {len : Nat} (M : Con l Z y bytes maxL ret rm as' h Qc) (hZ : Z.Warmed39 s.vm) (wc : (Cond.code y bytes maxL ret).before a0 Z = true) (wz : (Cond.initialized y.cls).before a0 Z = true) (hf : rm.frames + 1 ≤ R.frames) (hl : W + (maxL + 11) + rm.locals ≤ R.locals) :
    Back l R p e below s args y len W (fun A a => a = as' ∧ A.U.heap = h ∧ A.cells + rm.cells ≤ R.cells ∧ A.slots + rm.slots ≤ R.slots)
      (fun A _ v B => ∃ L, Qc v B.U.heap L ∧ B.locs = A.locs ++ L ∧ B.cells = A.cells + rm.cells ∧ B.slots = A.slots + rm.slots) := backOf (M []) hZ wc wz hf hl
theorem go_static (X : Stand p l e R s m args below meth c T locs cells slots) (hx : p.tables.exec = Jvm.exec) (hZ : Z.Warmed39 s.vm) (hown : s.vm.findClass own = some m.cls) (w1 : (Cond.methodLink own index y).before a0 Z = true) (w2 : (Cond.static y).before a0 Z = true) (wz : (Cond.initialized y.cls).before a0 Z = true) (wc : (Cond.code y bytes maxL ret).before a0 Z = true) (hy : y.cls ≠ "java/lang/invoke/MethodHandle" ∧ y.cls ≠ "java/lang/invoke/VarHandle")
    (eT : T.heap = h) (M : Con l Z y bytes maxL ret rm as' h Qc) (has : argsL.toArray = as') (hlen : ∀ sig, parseMethodDescriptor y.desc = some sig → argsL.length = sig.parameters.length) (hst : stk = argsL.reverse ++ rest) (hml : Ls.size = c.maxLocals) (hW : (rest.map fun v => v.category).sum ≤ W) (hd : decode c.code pc = .ok (.invokestatic index, 3)) (hf : rm.frames + 1 ≤ R.frames) (hl : W + (maxL + 11) + rm.locals ≤ R.locals) (hc : cells + rm.cells ≤ R.cells) (hs : slots + rm.slots ≤ R.slots) (hq : pc + 3 = q)
    (K : ∀ T' h' v L, Stand p l e R s m args below meth c T' (locs ++ L) (cells + rm.cells) (slots + rm.slots) → T'.heap = h' → Qc v h' L → Go p e below P T' (mkF m q Ls (v.toList ++ rest))) : Go p e below P T (mkF m pc Ls stk) := by
  subst hq
  obtain ⟨v, _, ⟨T', L', k', n'⟩, -, X', ⟨L, hQ, e1, e2, e3⟩, k⟩ := Jvm.LawKit.callS X hx (y := y) hown (mvT hZ w1) (mvT hZ w2) (mvT hZ wz) (mvT hZ wc) hy (M.pays (W := W) hZ wc wz hf hl) (g := mkF m pc Ls stk) rfl hml (argsL := argsL) (rest := rest) hlen hst (by show 2 * 0 + _ ≤ _; omega) hd (fun _ _ => ⟨has, eT, hc, hs⟩)
  dsimp only [Pt.U, Pt.locs, Pt.cells, Pt.slots] at X' e1 e2 e3 k hQ
  subst e1 e2 e3
  exact (K T' _ v L X' rfl hQ).back k
theorem go_special {a : Addr} (X : Stand p l e R s m args below meth c T locs cells slots) (hx : p.tables.exec = Jvm.exec) (hZ : Z.Warmed39 s.vm) (hown : s.vm.findClass own = some m.cls) (hy1 : y.name = "<init>") (w1 : (Cond.methodLink own index y).before a0 Z = true) (w2 : (Cond.instanceMethod y).before a0 Z = true) (wz : (Cond.initialized y.cls).before a0 Z = true) (wc : (Cond.code y bytes maxL none).before a0 Z = true) (hy : y.cls ≠ "java/lang/invoke/MethodHandle" ∧ y.cls ≠ "java/lang/invoke/VarHandle")
    (eT : T.heap = h) (M : Con l Z y bytes maxL none rm as' h Qc) (has : (.ref a :: argsL).toArray = as') (hlen : ∀ sig, parseMethodDescriptor y.desc = some sig → argsL.length = sig.parameters.length) (hst : stk = argsL.reverse ++ .ref a :: rest) (hml : Ls.size = c.maxLocals) (hW : (rest.map fun v => v.category).sum ≤ W) (hd : decode c.code pc = .ok (.invokespecial index, 3)) (hf : rm.frames + 1 ≤ R.frames) (hl : W + (maxL + 11) + rm.locals ≤ R.locals) (hc : cells + rm.cells ≤ R.cells) (hs : slots + rm.slots ≤ R.slots) (hq : pc + 3 = q)
    (K : ∀ T' h' v L, Stand p l e R s m args below meth c T' (locs ++ L) (cells + rm.cells) (slots + rm.slots) → T'.heap = h' → Qc v h' L → Go p e below P T' (mkF m q Ls (v.toList ++ rest))) : Go p e below P T (mkF m pc Ls stk) := by
  subst hq
  obtain ⟨v, _, ⟨T', L', k', n'⟩, -, X', ⟨L, hQ, e1, e2, e3⟩, k⟩ := X.specialBack hx (y := y) hy1 hown (mvT hZ w1) (mvT hZ w2) (mvT hZ wc) hy (M.pays (W := W) hZ wc wz hf hl) (g := mkF m pc Ls stk) rfl hml (Steps.refl _) (a := a) (argsL := argsL) (rest := rest) hlen hst (by show 2 * 0 + _ ≤ _; omega) hd (fun _ _ => ⟨has, eT, hc, hs⟩)
  dsimp only [Pt.U, Pt.locs, Pt.cells, Pt.slots] at X' e1 e2 e3 k hQ
  subst e1 e2 e3
  exact (K T' _ v L X' rfl hQ).back fun _ j => k.trans j
theorem go_virtual {a : Addr} (X : Stand p l e R s m args below meth c T locs cells slots) (hx : p.tables.exec = Jvm.exec) (hZ : Z.Warmed39 s.vm) (hown : s.vm.findClass own = some m.cls) (w1 : (Cond.methodLink own index y).before a0 Z = true) (w2 : (Cond.declares y).before a0 Z = true) (hnf : NotFace s y) (w3 : (Cond.selects CL y z).before a0 Z = true) (w4 : (Cond.instanceMethod z).before a0 Z = true) (wz : (Cond.initialized z.cls).before a0 Z = true) (wc : (Cond.code z bytes maxL ret).before a0 Z = true) (hy : y.cls ≠ "java/lang/invoke/MethodHandle" ∧ y.cls ≠ "java/lang/invoke/VarHandle")
    (eT : T.heap = h) (E : Exa Z h a CL) (M : Con l Z z bytes maxL ret rm as' h Qc) (has : (.ref a :: argsL).toArray = as') (hlen : ∀ sig, parseMethodDescriptor y.desc = some sig → argsL.length = sig.parameters.length) (hst : stk = argsL.reverse ++ .ref a :: rest) (hml : Ls.size = c.maxLocals) (hW : (rest.map fun v => v.category).sum ≤ W) (hd : decode c.code pc = .ok (.invokevirtual index, 3)) (hf : rm.frames + 1 ≤ R.frames) (hl : W + (maxL + 11) + rm.locals ≤ R.locals) (hc : cells + rm.cells ≤ R.cells) (hs : slots + rm.slots ≤ R.slots) (hq : pc + 3 = q)
    (K : ∀ T' h' v L, Stand p l e R s m args below meth c T' (locs ++ L) (cells + rm.cells) (slots + rm.slots) → T'.heap = h' → Qc v h' L → Go p e below P T' (mkF m q Ls (v.toList ++ rest))) : Go p e below P T (mkF m pc Ls stk) := by
  subst hq
  obtain ⟨cq, kq, qa, qb, qc⟩ := isOf hZ eT E
  obtain ⟨v, _, ⟨T', L', k', n'⟩, -, X', ⟨L, hQ, e1, e2, e3⟩, k⟩ := X.virtualBack hx (y := y) (z := z) hown (mvT hZ w1) (mvT hZ w2) hnf (mvT hZ w3) (mvT hZ w4) hy (M.pays (W := W) hZ wc wz hf hl) qa qc (g := mkF m pc Ls stk) rfl hml (Steps.refl _) (argsL := argsL) (rest := rest) hlen hst (by show 2 * 0 + _ ≤ _; omega) hd (fun _ _ => ⟨has, eT, hc, hs⟩)
  dsimp only [Pt.U, Pt.locs, Pt.cells, Pt.slots] at X' e1 e2 e3 k hQ
  subst e1 e2 e3
  exact (K T' _ v L X' rfl hQ).back fun _ j => k.trans j
theorem go_iface {a : Addr} {count : Nat} (X : Stand p l e R s m args below meth c T locs cells slots) (hx : p.tables.exec = Jvm.exec) (hZ : Z.Warmed39 s.vm) (hown : s.vm.findClass own = some m.cls) (w1 : (Cond.methodLink own index y).before a0 Z = true) (w2 : (Cond.declares y).before a0 Z = true) (w5 : (Cond.interfaceMethod y.cls y.cls y.name y.desc).before args s = true) (w3 : (Cond.selects CL y z).before a0 Z = true) (w4 : (Cond.instanceMethod z).before a0 Z = true) (w6 : (Cond.publicMethod z).before a0 Z = true) (w7 : (Cond.unhidden CL y.name y.desc).before a0 Z = true) (w8 : (Cond.castable CL y.cls).before a0 Z = true) (wz : (Cond.initialized z.cls).before a0 Z = true) (wc : (Cond.code z bytes maxL ret).before a0 Z = true) (hy : y.cls ≠ "java/lang/invoke/MethodHandle" ∧ y.cls ≠ "java/lang/invoke/VarHandle")
    (eT : T.heap = h) (E : Exa Z h a CL) (M : Con l Z z bytes maxL ret rm as' h Qc) (has : (.ref a :: argsL).toArray = as') (hlen : ∀ sig, parseMethodDescriptor y.desc = some sig → argsL.length = sig.parameters.length) (hst : stk = argsL.reverse ++ .ref a :: rest) (hml : Ls.size = c.maxLocals) (hW : (rest.map fun v => v.category).sum ≤ W) (hd : decode c.code pc = .ok (.invokeinterface index count, 5)) (hf : rm.frames + 1 ≤ R.frames) (hl : W + (maxL + 11) + rm.locals ≤ R.locals) (hc : cells + rm.cells ≤ R.cells) (hs : slots + rm.slots ≤ R.slots) (hq : pc + 5 = q)
    (K : ∀ T' h' v L, Stand p l e R s m args below meth c T' (locs ++ L) (cells + rm.cells) (slots + rm.slots) → T'.heap = h' → Qc v h' L → Go p e below P T' (mkF m q Ls (v.toList ++ rest))) : Go p e below P T (mkF m pc Ls stk) := by
  subst hq
  obtain ⟨cq, kq, qa, qb, qc⟩ := isOf hZ eT E
  obtain ⟨v, _, ⟨T', L', k', n'⟩, -, X', ⟨L, hQ, e1, e2, e3⟩, k⟩ := X.interfaceBack hx (xi := y) (y := z) hown (mvT hZ w1) (mvT hZ w2) w5 (mvT hZ w3) (mvT hZ w4) (mvT hZ w6) (mvT hZ w7) (mvT hZ w8) hy (M.pays (W := W) hZ wc wz hf hl) qa qb qc (g := mkF m pc Ls stk) rfl hml (Steps.refl _) (argsL := argsL) (rest := rest) hlen hst (by show 2 * 0 + _ ≤ _; omega) hd (fun _ _ => ⟨has, eT, hc, hs⟩)
  dsimp only [Pt.U, Pt.locs, Pt.cells, Pt.slots] at X' e1 e2 e3 k hQ
  subst e1 e2 e3
  exact (K T' _ v L X' rfl hQ).back fun _ j => k.trans j
end OwnKit
theorem own_dc (x y : Int32) (o : CmpOp) : cmpValue (FP.dcmp (FP.i2d x) (FP.i2d y)) o = lcmpW x.toInt64 y.toInt64 := by
  have hb : ∀ z : Int32, B53 z.toInt64 := fun z => by
    have h1 := Int32.toInt_lt z; have h2 := Int32.le_toInt z
    rw [B53, Int32.toInt_toInt64]; omega
  rw [i2d_w, i2d_w]; exact dcmpV_w (hb x) (hb y) o
theorem own_l64 (x y : Int32) : x.toInt64 < y.toInt64 ↔ x < y := by rw [Int64.lt_iff_toInt_lt, Int32.toInt_toInt64, Int32.toInt_toInt64, Int32.lt_iff_toInt_lt]
theorem own_gt {x y : Int32} (h : y < x) : 0 < (cmpValue (FP.dcmp (FP.i2d x) (FP.i2d y)) .l) := by
  rw [own_dc, lcW, lc_gt, own_l64]; exact h
theorem own_ngt {x y : Int32} (h : ¬ y < x) : ¬ 0 < (cmpValue (FP.dcmp (FP.i2d x) (FP.i2d y)) .l) := by
  rw [own_dc, lcW, lc_gt, own_l64]; exact h
theorem own_dlt {x y : Int32} (h : x < y) : (cmpValue (FP.dcmp (FP.i2d x) (FP.i2d y)) .g) < 0 := by
  rw [own_dc, lcW, lc_lt, own_l64]; exact h
theorem own_asym {x y : Int32} (h : x < y) : ¬ y < x := by rw [Int32.lt_iff_toInt_lt] at *; omega
theorem own_irr (x : Int32) : ¬ x < x := by rw [Int32.lt_iff_toInt_lt]; omega
theorem own_m3 (x : Int32) : (x &&& (3 : Int32)) = 0 ∨ (x &&& (3 : Int32)) = 1 ∨ (x &&& (3 : Int32)) = 2 ∨ (x &&& (3 : Int32)) = 3 := by
  have h := Jvm.Kit.i32_mask x 3 (k := 2) (by decide) (by decide)
  have h1 : (x &&& 3).toInt = 0 ∨ (x &&& 3).toInt = 1 ∨ (x &&& 3).toInt = 2 ∨ (x &&& 3).toInt = 3 := by omega
  rcases h1 with e | e | e | e
  · exact Or.inl (Int32.toInt_inj.mp e)
  · exact Or.inr (Or.inl (Int32.toInt_inj.mp e))
  · exact Or.inr (Or.inr (Or.inl (Int32.toInt_inj.mp e)))
  · exact Or.inr (Or.inr (Or.inr (Int32.toInt_inj.mp e)))
theorem own_len (x : Int32) : ((1 : Int32) + (x &&& (3 : Int32))) = 1 ∨ ((1 : Int32) + (x &&& (3 : Int32))) = 2 ∨ ((1 : Int32) + (x &&& (3 : Int32))) = 3 ∨ ((1 : Int32) + (x &&& (3 : Int32))) = 4 := by
  rcases own_m3 x with e | e | e | e <;> rw [e] <;> decide
theorem d1_0 : decode prog_56_method_5_code 0 = .ok (.iconst 0, 1) := by decide +kernel
theorem d1_1 : decode prog_56_method_5_code 1 = .ok (.istore_n 1, 1) := by decide +kernel
theorem d1_2 : decode prog_56_method_5_code 2 = .ok (.iconst 1, 1) := by decide +kernel
theorem d1_3 : decode prog_56_method_5_code 3 = .ok (.istore_n 2, 1) := by decide +kernel
theorem d1_4 : decode prog_56_method_5_code 4 = .ok (.iload_n 2, 1) := by decide +kernel
theorem d1_5 : decode prog_56_method_5_code 5 = .ok (.aload_n 0, 1) := by decide +kernel
theorem d1_6 : decode prog_56_method_5_code 6 = .ok (.arraylength, 1) := by decide +kernel
theorem d1_7 : decode prog_56_method_5_code 7 = .ok (.if_icmp .ge 21, 3) := by decide +kernel
theorem d1_10 : decode prog_56_method_5_code 10 = .ok (.aload_n 0, 1) := by decide +kernel
theorem d1_11 : decode prog_56_method_5_code 11 = .ok (.iload_n 2, 1) := by decide +kernel
theorem d1_12 : decode prog_56_method_5_code 12 = .ok (.daload, 1) := by decide +kernel
theorem d1_13 : decode prog_56_method_5_code 13 = .ok (.aload_n 0, 1) := by decide +kernel
theorem d1_14 : decode prog_56_method_5_code 14 = .ok (.iload_n 1, 1) := by decide +kernel
theorem d1_15 : decode prog_56_method_5_code 15 = .ok (.daload, 1) := by decide +kernel
theorem d1_16 : decode prog_56_method_5_code 16 = .ok (.dcmp .l, 1) := by decide +kernel
theorem d1_17 : decode prog_56_method_5_code 17 = .ok (.ifCond .le 5, 3) := by decide +kernel
theorem d1_20 : decode prog_56_method_5_code 20 = .ok (.iload_n 2, 1) := by decide +kernel
theorem d1_21 : decode prog_56_method_5_code 21 = .ok (.istore_n 1, 1) := by decide +kernel
theorem d1_22 : decode prog_56_method_5_code 22 = .ok (.iinc 2 1, 3) := by decide +kernel
theorem d1_25 : decode prog_56_method_5_code 25 = .ok (.goto (-21), 3) := by decide +kernel
theorem d1_28 : decode prog_56_method_5_code 28 = .ok (.iload_n 1, 1) := by decide +kernel
theorem d1_29 : decode prog_56_method_5_code 29 = .ok (.ireturn, 1) := by decide +kernel
theorem d2_0 : decode method_3_code 0 = .ok (.iload_n 1, 1) := by decide +kernel
theorem d2_1 : decode method_3_code 1 = .ok (.aload_n 0, 1) := by decide +kernel
theorem d2_2 : decode method_3_code 2 = .ok (.arraylength, 1) := by decide +kernel
theorem d2_3 : decode method_3_code 3 = .ok (.if_icmp .lt 5, 3) := by decide +kernel
theorem d2_6 : decode method_3_code 6 = .ok (.iconst 1, 1) := by decide +kernel
theorem d2_7 : decode method_3_code 7 = .ok (.ireturn, 1) := by decide +kernel
theorem d2_8 : decode method_3_code 8 = .ok (.aload_n 0, 1) := by decide +kernel
theorem d2_9 : decode method_3_code 9 = .ok (.iload_n 1, 1) := by decide +kernel
theorem d2_10 : decode method_3_code 10 = .ok (.daload, 1) := by decide +kernel
theorem d2_11 : decode method_3_code 11 = .ok (.dload_n 3, 1) := by decide +kernel
theorem d2_12 : decode method_3_code 12 = .ok (.dcmp .l, 1) := by decide +kernel
theorem d2_13 : decode method_3_code 13 = .ok (.ifCond .le 5, 3) := by decide +kernel
theorem d2_18 : decode method_3_code 18 = .ok (.iload_n 1, 1) := by decide +kernel
theorem d2_19 : decode method_3_code 19 = .ok (.iload_n 2, 1) := by decide +kernel
theorem d2_20 : decode method_3_code 20 = .ok (.if_icmp .ge 13, 3) := by decide +kernel
theorem d2_23 : decode method_3_code 23 = .ok (.aload_n 0, 1) := by decide +kernel
theorem d2_24 : decode method_3_code 24 = .ok (.iload_n 1, 1) := by decide +kernel
theorem d2_25 : decode method_3_code 25 = .ok (.daload, 1) := by decide +kernel
theorem d2_26 : decode method_3_code 26 = .ok (.dload_n 3, 1) := by decide +kernel
theorem d2_27 : decode method_3_code 27 = .ok (.dcmp .g, 1) := by decide +kernel
theorem d2_28 : decode method_3_code 28 = .ok (.ifCond .lt 5, 3) := by decide +kernel
theorem d2_33 : decode method_3_code 33 = .ok (.iconst 1, 1) := by decide +kernel
theorem d2_34 : decode method_3_code 34 = .ok (.ireturn, 1) := by decide +kernel
theorem pn_0 : plainName "com/example/causeway/causeway/model/Sampler" = true := by first | (simp [plainName, overriddenIn]; done) | decide +kernel
theorem pn_1 : plainName "com/example/causeway/causeway/model/SamplerMostLikelyPinLaw" = true := by first | (simp [plainName, overriddenIn]; done) | decide +kernel
theorem pd_0 : parseMethodDescriptor "([D)I" = some ⟨[(.array .double)], some .int⟩ := by decide +kernel
theorem pd_1 : parseMethodDescriptor "([DIID)Z" = some ⟨[(.array .double), .int, .int, .double], some .boolean⟩ := by decide +kernel
theorem w0 {Z : State} {a0 : Array Value} (hw : ∀ d ∈ tables_1, d.before a0 Z = true) : (Jvm.Cond.arrayClass Jvm.ClassFile.FieldType.double).before a0 Z = true := hw _ (List.mem_of_getElem? (i := 0) rfl)
theorem w1 {Z : State} {a0 : Array Value} (hw : ∀ d ∈ tables_1, d.before a0 Z = true) : (Jvm.Cond.methodLink "com/example/causeway/causeway/model/SamplerMostLikelyPinLaw" (7 : Nat) ({ cls := "com/example/causeway/causeway/model/Sampler", name := "mostLikely", desc := "([D)I" } : Jvm.MethodName)).before a0 Z = true := hw _ (List.mem_of_getElem? (i := 1) rfl)
theorem w2 {Z : State} {a0 : Array Value} (hw : ∀ d ∈ tables_1, d.before a0 Z = true) : (Jvm.Cond.static ({ cls := "com/example/causeway/causeway/model/Sampler", name := "mostLikely", desc := "([D)I" } : Jvm.MethodName)).before a0 Z = true := hw _ (List.mem_of_getElem? (i := 2) rfl)
theorem w3 {Z : State} {a0 : Array Value} (hw : ∀ d ∈ tables_1, d.before a0 Z = true) : (Jvm.Cond.initialized "com/example/causeway/causeway/model/Sampler").before a0 Z = true := hw _ (List.mem_of_getElem? (i := 3) rfl)
theorem w4 {Z : State} {a0 : Array Value} (hw : ∀ d ∈ tables_1, d.before a0 Z = true) : (Jvm.Cond.code ({ cls := "com/example/causeway/causeway/model/Sampler", name := "mostLikely", desc := "([D)I" } : Jvm.MethodName) prog_56_method_5_code (3 : Nat) (Option.some Jvm.ClassFile.FieldType.int)).before a0 Z = true := hw _ (List.mem_of_getElem? (i := 4) rfl)
theorem w5 {Z : State} {a0 : Array Value} (hw : ∀ d ∈ tables_1, d.before a0 Z = true) : (Jvm.Cond.methodLink "com/example/causeway/causeway/model/SamplerMostLikelyPinLaw" (13 : Nat) ({ cls := "com/example/causeway/causeway/model/SamplerMostLikelyPinLaw", name := "ok", desc := "([DIID)Z" } : Jvm.MethodName)).before a0 Z = true := hw _ (List.mem_of_getElem? (i := 5) rfl)
theorem w6 {Z : State} {a0 : Array Value} (hw : ∀ d ∈ tables_1, d.before a0 Z = true) : (Jvm.Cond.static ({ cls := "com/example/causeway/causeway/model/SamplerMostLikelyPinLaw", name := "ok", desc := "([DIID)Z" } : Jvm.MethodName)).before a0 Z = true := hw _ (List.mem_of_getElem? (i := 6) rfl)
theorem w7 {Z : State} {a0 : Array Value} (hw : ∀ d ∈ tables_1, d.before a0 Z = true) : (Jvm.Cond.initialized "com/example/causeway/causeway/model/SamplerMostLikelyPinLaw").before a0 Z = true := hw _ (List.mem_of_getElem? (i := 7) rfl)
theorem w8 {Z : State} {a0 : Array Value} (hw : ∀ d ∈ tables_1, d.before a0 Z = true) : (Jvm.Cond.code ({ cls := "com/example/causeway/causeway/model/SamplerMostLikelyPinLaw", name := "ok", desc := "([DIID)Z" } : Jvm.MethodName) method_3_code (5 : Nat) (Option.some Jvm.ClassFile.FieldType.boolean)).before a0 Z = true := hw _ (List.mem_of_getElem? (i := 8) rfl)
set_option maxRecDepth 65536 in
set_option maxHeartbeats 40000000 in
theorem b1 (l : Launch) (Z : State) (a0 : Array Value) (hw : ∀ d ∈ tables_1, d.before a0 Z = true) (a1 : Addr) (kk : ClassId) (dv : Value) (x0 : Int32) (h0 : Heap) (n0 : Nat) (O0 : Old Z n0 h0) (A_0 : Arv Z h0 a1 kk .double (1 : Int32) [(.double (FP.i2d x0))] dv) :
    Con l Z (⟨"com/example/causeway/causeway/model/Sampler", "mostLikely", "([D)I"⟩ : MethodName) prog_56_method_5_code 3 (some .int) ({ frames := 0, cells := 0, slots := 0, locals := 0 } : Room) #[(.ref a1)] h0 (fun v h L => ∃ (r : Int32), v = some (.int r) ∧ Fr n0 L ∧ Keep h0 h [] ∧ ((r = (0 : Int32)))) := by
  refine Con.of (plainFor_of_name pn_0) ?_
  intro p e s m below meth c s₁ hx hby hml hZ hown hnm hret hlk X0 e0
  have N0 := Fr.nil n0
  refine go_cast (g' := mkF m 0 #[.val (.ref a1), .unset, .unset] []) ?_ (by first | (simp [entryFrame, mkF, argsToLocals, Value.category]; done) | rfl)
  refine go_iconst (q := 1) X0 hx (hb hby d1_0) (v := (0 : Int32)) (by decide) rfl ?_
  refine go_istore_n (q := 2) X0 hx (hb hby d1_1) (l' := #[.val (.ref a1), .val (.int (0 : Int32)), .unset]) rfl rfl ?_
  refine go_iconst (q := 3) X0 hx (hb hby d1_2) (v := (1 : Int32)) (by decide) rfl ?_
  refine go_istore_n (q := 4) X0 hx (hb hby d1_3) (l' := #[.val (.ref a1), .val (.int (0 : Int32)), .val (.int (1 : Int32))]) rfl rfl ?_
  refine go_iload_n (q := 5) X0 hx (hb hby d1_4) (v := (1 : Int32)) rfl rfl ?_
  refine go_aload_n (q := 6) X0 hx (hb hby d1_5) (v := (.ref a1)) rfl rfl rfl ?_
  refine go_alen (q := 7) X0 hx hZ e0 A_0 (hb hby d1_6) rfl ?_
  refine go_icmpY (q := 28) X0 hx (hb hby d1_7) (XT.ii_ge_t (by decide)) (by decide) (by decide) ?_
  refine go_iload_n (q := 29) X0 hx (hb hby d1_28) (v := (0 : Int32)) rfl rfl ?_
  refine go_retI X0 hx hret hlk e0 (hb hby d1_29) (by simp) rfl (by decide) (by decide) ?_
  exact ⟨(0 : Int32), rfl, N0, (Keep.refl h0 []), (rfl)⟩
set_option maxRecDepth 65536 in
set_option maxHeartbeats 40000000 in
theorem b1_1 (l : Launch) (Z : State) (a0 : Array Value) (hw : ∀ d ∈ tables_1, d.before a0 Z = true) (a1 : Addr) (kk : ClassId) (dv : Value) (x0 : Int32) (x1 : Int32) (h0 : Heap) (n0 : Nat) (O0 : Old Z n0 h0) (A_0 : Arv Z h0 a1 kk .double (2 : Int32) [(.double (FP.i2d x0)), (.double (FP.i2d x1))] dv) :
    Con l Z (⟨"com/example/causeway/causeway/model/Sampler", "mostLikely", "([D)I"⟩ : MethodName) prog_56_method_5_code 3 (some .int) ({ frames := 0, cells := 0, slots := 0, locals := 0 } : Room) #[(.ref a1)] h0 (fun v h L => ∃ (r : Int32), v = some (.int r) ∧ Fr n0 L ∧ Keep h0 h [] ∧ ((r = (0 : Int32) ∧ ¬ x0 < x1) ∨ (r = (1 : Int32) ∧ x0 < x1))) := by
  refine Con.of (plainFor_of_name pn_0) ?_
  intro p e s m below meth c s₁ hx hby hml hZ hown hnm hret hlk X0 e0
  have N0 := Fr.nil n0
  refine go_cast (g' := mkF m 0 #[.val (.ref a1), .unset, .unset] []) ?_ (by first | (simp [entryFrame, mkF, argsToLocals, Value.category]; done) | rfl)
  refine go_iconst (q := 1) X0 hx (hb hby d1_0) (v := (0 : Int32)) (by decide) rfl ?_
  refine go_istore_n (q := 2) X0 hx (hb hby d1_1) (l' := #[.val (.ref a1), .val (.int (0 : Int32)), .unset]) rfl rfl ?_
  refine go_iconst (q := 3) X0 hx (hb hby d1_2) (v := (1 : Int32)) (by decide) rfl ?_
  refine go_istore_n (q := 4) X0 hx (hb hby d1_3) (l' := #[.val (.ref a1), .val (.int (0 : Int32)), .val (.int (1 : Int32))]) rfl rfl ?_
  refine go_iload_n (q := 5) X0 hx (hb hby d1_4) (v := (1 : Int32)) rfl rfl ?_
  refine go_aload_n (q := 6) X0 hx (hb hby d1_5) (v := (.ref a1)) rfl rfl rfl ?_
  refine go_alen (q := 7) X0 hx hZ e0 A_0 (hb hby d1_6) rfl ?_
  refine go_icmpN (q := 10) X0 hx (hb hby d1_7) (XT.ii_ge_f (by decide)) rfl ?_
  refine go_aload_n (q := 11) X0 hx (hb hby d1_10) (v := (.ref a1)) rfl rfl rfl ?_
  refine go_iload_n (q := 12) X0 hx (hb hby d1_11) (v := (1 : Int32)) rfl rfl ?_
  refine go_daload (q := 13) (j := (1 : Int32)) (v := (.double (FP.i2d x1))) X0 hx hZ e0 A_0 (by decide) rfl (hb hby d1_12) rfl ?_
  refine go_aload_n (q := 14) X0 hx (hb hby d1_13) (v := (.ref a1)) rfl rfl rfl ?_
  refine go_iload_n (q := 15) X0 hx (hb hby d1_14) (v := (0 : Int32)) rfl rfl ?_
  refine go_daload (q := 16) (j := (0 : Int32)) (v := (.double (FP.i2d x0))) X0 hx hZ e0 A_0 (by decide) rfl (hb hby d1_15) rfl ?_
  refine go_dcmp (q := 17) X0 hx (hb hby d1_16)  rfl ?_
  by_cases c1 : x0 < x1
  · refine go_ifN (q := 20) X0 hx (hb hby d1_17) (XT.i0_le_f (own_gt c1)) rfl ?_
    refine go_iload_n (q := 21) X0 hx (hb hby d1_20) (v := (1 : Int32)) rfl rfl ?_
    refine go_istore_n (q := 22) X0 hx (hb hby d1_21) (l' := #[.val (.ref a1), .val (.int (1 : Int32)), .val (.int (1 : Int32))]) rfl rfl ?_
    refine go_iinc (q := 25) X0 hx (hb hby d1_22) (x := (1 : Int32)) (v := (2 : Int32)) rfl (by first | rfl | decide) (l' := #[.val (.ref a1), .val (.int (1 : Int32)), .val (.int (2 : Int32))]) rfl rfl ?_
    refine go_goto (q := 4) X0 hx (hb hby d1_25) (by decide) (by decide) ?_
    refine go_iload_n (q := 5) X0 hx (hb hby d1_4) (v := (2 : Int32)) rfl rfl ?_
    refine go_aload_n (q := 6) X0 hx (hb hby d1_5) (v := (.ref a1)) rfl rfl rfl ?_
    refine go_alen (q := 7) X0 hx hZ e0 A_0 (hb hby d1_6) rfl ?_
    refine go_icmpY (q := 28) X0 hx (hb hby d1_7) (XT.ii_ge_t (by decide)) (by decide) (by decide) ?_
    refine go_iload_n (q := 29) X0 hx (hb hby d1_28) (v := (1 : Int32)) rfl rfl ?_
    refine go_retI X0 hx hret hlk e0 (hb hby d1_29) (by simp) rfl (by decide) (by decide) ?_
    exact ⟨(1 : Int32), rfl, N0, (Keep.refl h0 []), (Or.inr (⟨rfl, by (simp only [Int32.lt_iff_toInt_lt] at *; omega)⟩))⟩
  · refine go_ifY (q := 22) X0 hx (hb hby d1_17) (XT.i0_le_t (own_ngt c1)) (by decide) (by decide) ?_
    refine go_iinc (q := 25) X0 hx (hb hby d1_22) (x := (1 : Int32)) (v := (2 : Int32)) rfl (by first | rfl | decide) (l' := #[.val (.ref a1), .val (.int (0 : Int32)), .val (.int (2 : Int32))]) rfl rfl ?_
    refine go_goto (q := 4) X0 hx (hb hby d1_25) (by decide) (by decide) ?_
    refine go_iload_n (q := 5) X0 hx (hb hby d1_4) (v := (2 : Int32)) rfl rfl ?_
    refine go_aload_n (q := 6) X0 hx (hb hby d1_5) (v := (.ref a1)) rfl rfl rfl ?_
    refine go_alen (q := 7) X0 hx hZ e0 A_0 (hb hby d1_6) rfl ?_
    refine go_icmpY (q := 28) X0 hx (hb hby d1_7) (XT.ii_ge_t (by decide)) (by decide) (by decide) ?_
    refine go_iload_n (q := 29) X0 hx (hb hby d1_28) (v := (0 : Int32)) rfl rfl ?_
    refine go_retI X0 hx hret hlk e0 (hb hby d1_29) (by simp) rfl (by decide) (by decide) ?_
    exact ⟨(0 : Int32), rfl, N0, (Keep.refl h0 []), (Or.inl ⟨rfl, by (simp only [Int32.lt_iff_toInt_lt] at *; omega)⟩)⟩
set_option maxRecDepth 65536 in
set_option maxHeartbeats 40000000 in
theorem b1_2 (l : Launch) (Z : State) (a0 : Array Value) (hw : ∀ d ∈ tables_1, d.before a0 Z = true) (a1 : Addr) (kk : ClassId) (dv : Value) (x0 : Int32) (x1 : Int32) (x2 : Int32) (h0 : Heap) (n0 : Nat) (O0 : Old Z n0 h0) (A_0 : Arv Z h0 a1 kk .double (3 : Int32) [(.double (FP.i2d x0)), (.double (FP.i2d x1)), (.double (FP.i2d x2))] dv) :
    Con l Z (⟨"com/example/causeway/causeway/model/Sampler", "mostLikely", "([D)I"⟩ : MethodName) prog_56_method_5_code 3 (some .int) ({ frames := 0, cells := 0, slots := 0, locals := 0 } : Room) #[(.ref a1)] h0 (fun v h L => ∃ (r : Int32), v = some (.int r) ∧ Fr n0 L ∧ Keep h0 h [] ∧ ((r = (0 : Int32) ∧ ¬ x0 < x1 ∧ ¬ x0 < x2) ∨ (r = (1 : Int32) ∧ x0 < x1 ∧ ¬ x1 < x2) ∨ (r = (2 : Int32) ∧ x0 < x2 ∧ x1 < x2))) := by
  refine Con.of (plainFor_of_name pn_0) ?_
  intro p e s m below meth c s₁ hx hby hml hZ hown hnm hret hlk X0 e0
  have N0 := Fr.nil n0
  refine go_cast (g' := mkF m 0 #[.val (.ref a1), .unset, .unset] []) ?_ (by first | (simp [entryFrame, mkF, argsToLocals, Value.category]; done) | rfl)
  refine go_iconst (q := 1) X0 hx (hb hby d1_0) (v := (0 : Int32)) (by decide) rfl ?_
  refine go_istore_n (q := 2) X0 hx (hb hby d1_1) (l' := #[.val (.ref a1), .val (.int (0 : Int32)), .unset]) rfl rfl ?_
  refine go_iconst (q := 3) X0 hx (hb hby d1_2) (v := (1 : Int32)) (by decide) rfl ?_
  refine go_istore_n (q := 4) X0 hx (hb hby d1_3) (l' := #[.val (.ref a1), .val (.int (0 : Int32)), .val (.int (1 : Int32))]) rfl rfl ?_
  refine go_iload_n (q := 5) X0 hx (hb hby d1_4) (v := (1 : Int32)) rfl rfl ?_
  refine go_aload_n (q := 6) X0 hx (hb hby d1_5) (v := (.ref a1)) rfl rfl rfl ?_
  refine go_alen (q := 7) X0 hx hZ e0 A_0 (hb hby d1_6) rfl ?_
  refine go_icmpN (q := 10) X0 hx (hb hby d1_7) (XT.ii_ge_f (by decide)) rfl ?_
  refine go_aload_n (q := 11) X0 hx (hb hby d1_10) (v := (.ref a1)) rfl rfl rfl ?_
  refine go_iload_n (q := 12) X0 hx (hb hby d1_11) (v := (1 : Int32)) rfl rfl ?_
  refine go_daload (q := 13) (j := (1 : Int32)) (v := (.double (FP.i2d x1))) X0 hx hZ e0 A_0 (by decide) rfl (hb hby d1_12) rfl ?_
  refine go_aload_n (q := 14) X0 hx (hb hby d1_13) (v := (.ref a1)) rfl rfl rfl ?_
  refine go_iload_n (q := 15) X0 hx (hb hby d1_14) (v := (0 : Int32)) rfl rfl ?_
  refine go_daload (q := 16) (j := (0 : Int32)) (v := (.double (FP.i2d x0))) X0 hx hZ e0 A_0 (by decide) rfl (hb hby d1_15) rfl ?_
  refine go_dcmp (q := 17) X0 hx (hb hby d1_16)  rfl ?_
  by_cases c1 : x0 < x1
  · refine go_ifN (q := 20) X0 hx (hb hby d1_17) (XT.i0_le_f (own_gt c1)) rfl ?_
    refine go_iload_n (q := 21) X0 hx (hb hby d1_20) (v := (1 : Int32)) rfl rfl ?_
    refine go_istore_n (q := 22) X0 hx (hb hby d1_21) (l' := #[.val (.ref a1), .val (.int (1 : Int32)), .val (.int (1 : Int32))]) rfl rfl ?_
    refine go_iinc (q := 25) X0 hx (hb hby d1_22) (x := (1 : Int32)) (v := (2 : Int32)) rfl (by first | rfl | decide) (l' := #[.val (.ref a1), .val (.int (1 : Int32)), .val (.int (2 : Int32))]) rfl rfl ?_
    refine go_goto (q := 4) X0 hx (hb hby d1_25) (by decide) (by decide) ?_
    refine go_iload_n (q := 5) X0 hx (hb hby d1_4) (v := (2 : Int32)) rfl rfl ?_
    refine go_aload_n (q := 6) X0 hx (hb hby d1_5) (v := (.ref a1)) rfl rfl rfl ?_
    refine go_alen (q := 7) X0 hx hZ e0 A_0 (hb hby d1_6) rfl ?_
    refine go_icmpN (q := 10) X0 hx (hb hby d1_7) (XT.ii_ge_f (by decide)) rfl ?_
    refine go_aload_n (q := 11) X0 hx (hb hby d1_10) (v := (.ref a1)) rfl rfl rfl ?_
    refine go_iload_n (q := 12) X0 hx (hb hby d1_11) (v := (2 : Int32)) rfl rfl ?_
    refine go_daload (q := 13) (j := (2 : Int32)) (v := (.double (FP.i2d x2))) X0 hx hZ e0 A_0 (by decide) rfl (hb hby d1_12) rfl ?_
    refine go_aload_n (q := 14) X0 hx (hb hby d1_13) (v := (.ref a1)) rfl rfl rfl ?_
    refine go_iload_n (q := 15) X0 hx (hb hby d1_14) (v := (1 : Int32)) rfl rfl ?_
    refine go_daload (q := 16) (j := (1 : Int32)) (v := (.double (FP.i2d x1))) X0 hx hZ e0 A_0 (by decide) rfl (hb hby d1_15) rfl ?_
    refine go_dcmp (q := 17) X0 hx (hb hby d1_16)  rfl ?_
    by_cases c2 : x1 < x2
    · refine go_ifN (q := 20) X0 hx (hb hby d1_17) (XT.i0_le_f (own_gt c2)) rfl ?_
      refine go_iload_n (q := 21) X0 hx (hb hby d1_20) (v := (2 : Int32)) rfl rfl ?_
      refine go_istore_n (q := 22) X0 hx (hb hby d1_21) (l' := #[.val (.ref a1), .val (.int (2 : Int32)), .val (.int (2 : Int32))]) rfl rfl ?_
      refine go_iinc (q := 25) X0 hx (hb hby d1_22) (x := (2 : Int32)) (v := (3 : Int32)) rfl (by first | rfl | decide) (l' := #[.val (.ref a1), .val (.int (2 : Int32)), .val (.int (3 : Int32))]) rfl rfl ?_
      refine go_goto (q := 4) X0 hx (hb hby d1_25) (by decide) (by decide) ?_
      refine go_iload_n (q := 5) X0 hx (hb hby d1_4) (v := (3 : Int32)) rfl rfl ?_
      refine go_aload_n (q := 6) X0 hx (hb hby d1_5) (v := (.ref a1)) rfl rfl rfl ?_
      refine go_alen (q := 7) X0 hx hZ e0 A_0 (hb hby d1_6) rfl ?_
      refine go_icmpY (q := 28) X0 hx (hb hby d1_7) (XT.ii_ge_t (by decide)) (by decide) (by decide) ?_
      refine go_iload_n (q := 29) X0 hx (hb hby d1_28) (v := (2 : Int32)) rfl rfl ?_
      refine go_retI X0 hx hret hlk e0 (hb hby d1_29) (by simp) rfl (by decide) (by decide) ?_
      exact ⟨(2 : Int32), rfl, N0, (Keep.refl h0 []), (Or.inr (Or.inr (⟨rfl, by (simp only [Int32.lt_iff_toInt_lt] at *; omega), by (simp only [Int32.lt_iff_toInt_lt] at *; omega)⟩)))⟩
    · refine go_ifY (q := 22) X0 hx (hb hby d1_17) (XT.i0_le_t (own_ngt c2)) (by decide) (by decide) ?_
      refine go_iinc (q := 25) X0 hx (hb hby d1_22) (x := (2 : Int32)) (v := (3 : Int32)) rfl (by first | rfl | decide) (l' := #[.val (.ref a1), .val (.int (1 : Int32)), .val (.int (3 : Int32))]) rfl rfl ?_
      refine go_goto (q := 4) X0 hx (hb hby d1_25) (by decide) (by decide) ?_
      refine go_iload_n (q := 5) X0 hx (hb hby d1_4) (v := (3 : Int32)) rfl rfl ?_
      refine go_aload_n (q := 6) X0 hx (hb hby d1_5) (v := (.ref a1)) rfl rfl rfl ?_
      refine go_alen (q := 7) X0 hx hZ e0 A_0 (hb hby d1_6) rfl ?_
      refine go_icmpY (q := 28) X0 hx (hb hby d1_7) (XT.ii_ge_t (by decide)) (by decide) (by decide) ?_
      refine go_iload_n (q := 29) X0 hx (hb hby d1_28) (v := (1 : Int32)) rfl rfl ?_
      refine go_retI X0 hx hret hlk e0 (hb hby d1_29) (by simp) rfl (by decide) (by decide) ?_
      exact ⟨(1 : Int32), rfl, N0, (Keep.refl h0 []), (Or.inr (Or.inl ⟨rfl, by (simp only [Int32.lt_iff_toInt_lt] at *; omega), by (simp only [Int32.lt_iff_toInt_lt] at *; omega)⟩))⟩
  · refine go_ifY (q := 22) X0 hx (hb hby d1_17) (XT.i0_le_t (own_ngt c1)) (by decide) (by decide) ?_
    refine go_iinc (q := 25) X0 hx (hb hby d1_22) (x := (1 : Int32)) (v := (2 : Int32)) rfl (by first | rfl | decide) (l' := #[.val (.ref a1), .val (.int (0 : Int32)), .val (.int (2 : Int32))]) rfl rfl ?_
    refine go_goto (q := 4) X0 hx (hb hby d1_25) (by decide) (by decide) ?_
    refine go_iload_n (q := 5) X0 hx (hb hby d1_4) (v := (2 : Int32)) rfl rfl ?_
    refine go_aload_n (q := 6) X0 hx (hb hby d1_5) (v := (.ref a1)) rfl rfl rfl ?_
    refine go_alen (q := 7) X0 hx hZ e0 A_0 (hb hby d1_6) rfl ?_
    refine go_icmpN (q := 10) X0 hx (hb hby d1_7) (XT.ii_ge_f (by decide)) rfl ?_
    refine go_aload_n (q := 11) X0 hx (hb hby d1_10) (v := (.ref a1)) rfl rfl rfl ?_
    refine go_iload_n (q := 12) X0 hx (hb hby d1_11) (v := (2 : Int32)) rfl rfl ?_
    refine go_daload (q := 13) (j := (2 : Int32)) (v := (.double (FP.i2d x2))) X0 hx hZ e0 A_0 (by decide) rfl (hb hby d1_12) rfl ?_
    refine go_aload_n (q := 14) X0 hx (hb hby d1_13) (v := (.ref a1)) rfl rfl rfl ?_
    refine go_iload_n (q := 15) X0 hx (hb hby d1_14) (v := (0 : Int32)) rfl rfl ?_
    refine go_daload (q := 16) (j := (0 : Int32)) (v := (.double (FP.i2d x0))) X0 hx hZ e0 A_0 (by decide) rfl (hb hby d1_15) rfl ?_
    refine go_dcmp (q := 17) X0 hx (hb hby d1_16)  rfl ?_
    by_cases c3 : x0 < x2
    · refine go_ifN (q := 20) X0 hx (hb hby d1_17) (XT.i0_le_f (own_gt c3)) rfl ?_
      refine go_iload_n (q := 21) X0 hx (hb hby d1_20) (v := (2 : Int32)) rfl rfl ?_
      refine go_istore_n (q := 22) X0 hx (hb hby d1_21) (l' := #[.val (.ref a1), .val (.int (2 : Int32)), .val (.int (2 : Int32))]) rfl rfl ?_
      refine go_iinc (q := 25) X0 hx (hb hby d1_22) (x := (2 : Int32)) (v := (3 : Int32)) rfl (by first | rfl | decide) (l' := #[.val (.ref a1), .val (.int (2 : Int32)), .val (.int (3 : Int32))]) rfl rfl ?_
      refine go_goto (q := 4) X0 hx (hb hby d1_25) (by decide) (by decide) ?_
      refine go_iload_n (q := 5) X0 hx (hb hby d1_4) (v := (3 : Int32)) rfl rfl ?_
      refine go_aload_n (q := 6) X0 hx (hb hby d1_5) (v := (.ref a1)) rfl rfl rfl ?_
      refine go_alen (q := 7) X0 hx hZ e0 A_0 (hb hby d1_6) rfl ?_
      refine go_icmpY (q := 28) X0 hx (hb hby d1_7) (XT.ii_ge_t (by decide)) (by decide) (by decide) ?_
      refine go_iload_n (q := 29) X0 hx (hb hby d1_28) (v := (2 : Int32)) rfl rfl ?_
      refine go_retI X0 hx hret hlk e0 (hb hby d1_29) (by simp) rfl (by decide) (by decide) ?_
      exact ⟨(2 : Int32), rfl, N0, (Keep.refl h0 []), (Or.inr (Or.inr (⟨rfl, by (simp only [Int32.lt_iff_toInt_lt] at *; omega), by (simp only [Int32.lt_iff_toInt_lt] at *; omega)⟩)))⟩
    · refine go_ifY (q := 22) X0 hx (hb hby d1_17) (XT.i0_le_t (own_ngt c3)) (by decide) (by decide) ?_
      refine go_iinc (q := 25) X0 hx (hb hby d1_22) (x := (2 : Int32)) (v := (3 : Int32)) rfl (by first | rfl | decide) (l' := #[.val (.ref a1), .val (.int (0 : Int32)), .val (.int (3 : Int32))]) rfl rfl ?_
      refine go_goto (q := 4) X0 hx (hb hby d1_25) (by decide) (by decide) ?_
      refine go_iload_n (q := 5) X0 hx (hb hby d1_4) (v := (3 : Int32)) rfl rfl ?_
      refine go_aload_n (q := 6) X0 hx (hb hby d1_5) (v := (.ref a1)) rfl rfl rfl ?_
      refine go_alen (q := 7) X0 hx hZ e0 A_0 (hb hby d1_6) rfl ?_
      refine go_icmpY (q := 28) X0 hx (hb hby d1_7) (XT.ii_ge_t (by decide)) (by decide) (by decide) ?_
      refine go_iload_n (q := 29) X0 hx (hb hby d1_28) (v := (0 : Int32)) rfl rfl ?_
      refine go_retI X0 hx hret hlk e0 (hb hby d1_29) (by simp) rfl (by decide) (by decide) ?_
      exact ⟨(0 : Int32), rfl, N0, (Keep.refl h0 []), (Or.inl ⟨rfl, by (simp only [Int32.lt_iff_toInt_lt] at *; omega), by (simp only [Int32.lt_iff_toInt_lt] at *; omega)⟩)⟩
set_option maxRecDepth 65536 in
set_option maxHeartbeats 40000000 in
theorem b1_3 (l : Launch) (Z : State) (a0 : Array Value) (hw : ∀ d ∈ tables_1, d.before a0 Z = true) (a1 : Addr) (kk : ClassId) (dv : Value) (x0 : Int32) (x1 : Int32) (x2 : Int32) (x3 : Int32) (h0 : Heap) (n0 : Nat) (O0 : Old Z n0 h0) (A_0 : Arv Z h0 a1 kk .double (4 : Int32) [(.double (FP.i2d x0)), (.double (FP.i2d x1)), (.double (FP.i2d x2)), (.double (FP.i2d x3))] dv) :
    Con l Z (⟨"com/example/causeway/causeway/model/Sampler", "mostLikely", "([D)I"⟩ : MethodName) prog_56_method_5_code 3 (some .int) ({ frames := 0, cells := 0, slots := 0, locals := 0 } : Room) #[(.ref a1)] h0 (fun v h L => ∃ (r : Int32), v = some (.int r) ∧ Fr n0 L ∧ Keep h0 h [] ∧ ((r = (0 : Int32) ∧ ¬ x0 < x1 ∧ ¬ x0 < x2 ∧ ¬ x0 < x3) ∨ (r = (1 : Int32) ∧ x0 < x1 ∧ ¬ x1 < x2 ∧ ¬ x1 < x3) ∨ (r = (2 : Int32) ∧ x0 < x2 ∧ x1 < x2 ∧ ¬ x2 < x3) ∨ (r = (3 : Int32) ∧ x0 < x3 ∧ x1 < x3 ∧ x2 < x3))) := by
  refine Con.of (plainFor_of_name pn_0) ?_
  intro p e s m below meth c s₁ hx hby hml hZ hown hnm hret hlk X0 e0
  have N0 := Fr.nil n0
  refine go_cast (g' := mkF m 0 #[.val (.ref a1), .unset, .unset] []) ?_ (by first | (simp [entryFrame, mkF, argsToLocals, Value.category]; done) | rfl)
  refine go_iconst (q := 1) X0 hx (hb hby d1_0) (v := (0 : Int32)) (by decide) rfl ?_
  refine go_istore_n (q := 2) X0 hx (hb hby d1_1) (l' := #[.val (.ref a1), .val (.int (0 : Int32)), .unset]) rfl rfl ?_
  refine go_iconst (q := 3) X0 hx (hb hby d1_2) (v := (1 : Int32)) (by decide) rfl ?_
  refine go_istore_n (q := 4) X0 hx (hb hby d1_3) (l' := #[.val (.ref a1), .val (.int (0 : Int32)), .val (.int (1 : Int32))]) rfl rfl ?_
  refine go_iload_n (q := 5) X0 hx (hb hby d1_4) (v := (1 : Int32)) rfl rfl ?_
  refine go_aload_n (q := 6) X0 hx (hb hby d1_5) (v := (.ref a1)) rfl rfl rfl ?_
  refine go_alen (q := 7) X0 hx hZ e0 A_0 (hb hby d1_6) rfl ?_
  refine go_icmpN (q := 10) X0 hx (hb hby d1_7) (XT.ii_ge_f (by decide)) rfl ?_
  refine go_aload_n (q := 11) X0 hx (hb hby d1_10) (v := (.ref a1)) rfl rfl rfl ?_
  refine go_iload_n (q := 12) X0 hx (hb hby d1_11) (v := (1 : Int32)) rfl rfl ?_
  refine go_daload (q := 13) (j := (1 : Int32)) (v := (.double (FP.i2d x1))) X0 hx hZ e0 A_0 (by decide) rfl (hb hby d1_12) rfl ?_
  refine go_aload_n (q := 14) X0 hx (hb hby d1_13) (v := (.ref a1)) rfl rfl rfl ?_
  refine go_iload_n (q := 15) X0 hx (hb hby d1_14) (v := (0 : Int32)) rfl rfl ?_
  refine go_daload (q := 16) (j := (0 : Int32)) (v := (.double (FP.i2d x0))) X0 hx hZ e0 A_0 (by decide) rfl (hb hby d1_15) rfl ?_
  refine go_dcmp (q := 17) X0 hx (hb hby d1_16)  rfl ?_
  by_cases c1 : x0 < x1
  · refine go_ifN (q := 20) X0 hx (hb hby d1_17) (XT.i0_le_f (own_gt c1)) rfl ?_
    refine go_iload_n (q := 21) X0 hx (hb hby d1_20) (v := (1 : Int32)) rfl rfl ?_
    refine go_istore_n (q := 22) X0 hx (hb hby d1_21) (l' := #[.val (.ref a1), .val (.int (1 : Int32)), .val (.int (1 : Int32))]) rfl rfl ?_
    refine go_iinc (q := 25) X0 hx (hb hby d1_22) (x := (1 : Int32)) (v := (2 : Int32)) rfl (by first | rfl | decide) (l' := #[.val (.ref a1), .val (.int (1 : Int32)), .val (.int (2 : Int32))]) rfl rfl ?_
    refine go_goto (q := 4) X0 hx (hb hby d1_25) (by decide) (by decide) ?_
    refine go_iload_n (q := 5) X0 hx (hb hby d1_4) (v := (2 : Int32)) rfl rfl ?_
    refine go_aload_n (q := 6) X0 hx (hb hby d1_5) (v := (.ref a1)) rfl rfl rfl ?_
    refine go_alen (q := 7) X0 hx hZ e0 A_0 (hb hby d1_6) rfl ?_
    refine go_icmpN (q := 10) X0 hx (hb hby d1_7) (XT.ii_ge_f (by decide)) rfl ?_
    refine go_aload_n (q := 11) X0 hx (hb hby d1_10) (v := (.ref a1)) rfl rfl rfl ?_
    refine go_iload_n (q := 12) X0 hx (hb hby d1_11) (v := (2 : Int32)) rfl rfl ?_
    refine go_daload (q := 13) (j := (2 : Int32)) (v := (.double (FP.i2d x2))) X0 hx hZ e0 A_0 (by decide) rfl (hb hby d1_12) rfl ?_
    refine go_aload_n (q := 14) X0 hx (hb hby d1_13) (v := (.ref a1)) rfl rfl rfl ?_
    refine go_iload_n (q := 15) X0 hx (hb hby d1_14) (v := (1 : Int32)) rfl rfl ?_
    refine go_daload (q := 16) (j := (1 : Int32)) (v := (.double (FP.i2d x1))) X0 hx hZ e0 A_0 (by decide) rfl (hb hby d1_15) rfl ?_
    refine go_dcmp (q := 17) X0 hx (hb hby d1_16)  rfl ?_
    by_cases c2 : x1 < x2
    · refine go_ifN (q := 20) X0 hx (hb hby d1_17) (XT.i0_le_f (own_gt c2)) rfl ?_
      refine go_iload_n (q := 21) X0 hx (hb hby d1_20) (v := (2 : Int32)) rfl rfl ?_
      refine go_istore_n (q := 22) X0 hx (hb hby d1_21) (l' := #[.val (.ref a1), .val (.int (2 : Int32)), .val (.int (2 : Int32))]) rfl rfl ?_
      refine go_iinc (q := 25) X0 hx (hb hby d1_22) (x := (2 : Int32)) (v := (3 : Int32)) rfl (by first | rfl | decide) (l' := #[.val (.ref a1), .val (.int (2 : Int32)), .val (.int (3 : Int32))]) rfl rfl ?_
      refine go_goto (q := 4) X0 hx (hb hby d1_25) (by decide) (by decide) ?_
      refine go_iload_n (q := 5) X0 hx (hb hby d1_4) (v := (3 : Int32)) rfl rfl ?_
      refine go_aload_n (q := 6) X0 hx (hb hby d1_5) (v := (.ref a1)) rfl rfl rfl ?_
      refine go_alen (q := 7) X0 hx hZ e0 A_0 (hb hby d1_6) rfl ?_
      refine go_icmpN (q := 10) X0 hx (hb hby d1_7) (XT.ii_ge_f (by decide)) rfl ?_
      refine go_aload_n (q := 11) X0 hx (hb hby d1_10) (v := (.ref a1)) rfl rfl rfl ?_
      refine go_iload_n (q := 12) X0 hx (hb hby d1_11) (v := (3 : Int32)) rfl rfl ?_
      refine go_daload (q := 13) (j := (3 : Int32)) (v := (.double (FP.i2d x3))) X0 hx hZ e0 A_0 (by decide) rfl (hb hby d1_12) rfl ?_
      refine go_aload_n (q := 14) X0 hx (hb hby d1_13) (v := (.ref a1)) rfl rfl rfl ?_
      refine go_iload_n (q := 15) X0 hx (hb hby d1_14) (v := (2 : Int32)) rfl rfl ?_
      refine go_daload (q := 16) (j := (2 : Int32)) (v := (.double (FP.i2d x2))) X0 hx hZ e0 A_0 (by decide) rfl (hb hby d1_15) rfl ?_
      refine go_dcmp (q := 17) X0 hx (hb hby d1_16)  rfl ?_
      by_cases c3 : x2 < x3
      · refine go_ifN (q := 20) X0 hx (hb hby d1_17) (XT.i0_le_f (own_gt c3)) rfl ?_
        refine go_iload_n (q := 21) X0 hx (hb hby d1_20) (v := (3 : Int32)) rfl rfl ?_
        refine go_istore_n (q := 22) X0 hx (hb hby d1_21) (l' := #[.val (.ref a1), .val (.int (3 : Int32)), .val (.int (3 : Int32))]) rfl rfl ?_
        refine go_iinc (q := 25) X0 hx (hb hby d1_22) (x := (3 : Int32)) (v := (4 : Int32)) rfl (by first | rfl | decide) (l' := #[.val (.ref a1), .val (.int (3 : Int32)), .val (.int (4 : Int32))]) rfl rfl ?_
        refine go_goto (q := 4) X0 hx (hb hby d1_25) (by decide) (by decide) ?_
        refine go_iload_n (q := 5) X0 hx (hb hby d1_4) (v := (4 : Int32)) rfl rfl ?_
        refine go_aload_n (q := 6) X0 hx (hb hby d1_5) (v := (.ref a1)) rfl rfl rfl ?_
        refine go_alen (q := 7) X0 hx hZ e0 A_0 (hb hby d1_6) rfl ?_
        refine go_icmpY (q := 28) X0 hx (hb hby d1_7) (XT.ii_ge_t (by decide)) (by decide) (by decide) ?_
        refine go_iload_n (q := 29) X0 hx (hb hby d1_28) (v := (3 : Int32)) rfl rfl ?_
        refine go_retI X0 hx hret hlk e0 (hb hby d1_29) (by simp) rfl (by decide) (by decide) ?_
        exact ⟨(3 : Int32), rfl, N0, (Keep.refl h0 []), (Or.inr (Or.inr (Or.inr (⟨rfl, by (simp only [Int32.lt_iff_toInt_lt] at *; omega), by (simp only [Int32.lt_iff_toInt_lt] at *; omega), by (simp only [Int32.lt_iff_toInt_lt] at *; omega)⟩))))⟩
      · refine go_ifY (q := 22) X0 hx (hb hby d1_17) (XT.i0_le_t (own_ngt c3)) (by decide) (by decide) ?_
        refine go_iinc (q := 25) X0 hx (hb hby d1_22) (x := (3 : Int32)) (v := (4 : Int32)) rfl (by first | rfl | decide) (l' := #[.val (.ref a1), .val (.int (2 : Int32)), .val (.int (4 : Int32))]) rfl rfl ?_
        refine go_goto (q := 4) X0 hx (hb hby d1_25) (by decide) (by decide) ?_
        refine go_iload_n (q := 5) X0 hx (hb hby d1_4) (v := (4 : Int32)) rfl rfl ?_
        refine go_aload_n (q := 6) X0 hx (hb hby d1_5) (v := (.ref a1)) rfl rfl rfl ?_
        refine go_alen (q := 7) X0 hx hZ e0 A_0 (hb hby d1_6) rfl ?_
        refine go_icmpY (q := 28) X0 hx (hb hby d1_7) (XT.ii_ge_t (by decide)) (by decide) (by decide) ?_
        refine go_iload_n (q := 29) X0 hx (hb hby d1_28) (v := (2 : Int32)) rfl rfl ?_
        refine go_retI X0 hx hret hlk e0 (hb hby d1_29) (by simp) rfl (by decide) (by decide) ?_
        exact ⟨(2 : Int32), rfl, N0, (Keep.refl h0 []), (Or.inr (Or.inr (Or.inl ⟨rfl, by (simp only [Int32.lt_iff_toInt_lt] at *; omega), by (simp only [Int32.lt_iff_toInt_lt] at *; omega), by (simp only [Int32.lt_iff_toInt_lt] at *; omega)⟩)))⟩
    · refine go_ifY (q := 22) X0 hx (hb hby d1_17) (XT.i0_le_t (own_ngt c2)) (by decide) (by decide) ?_
      refine go_iinc (q := 25) X0 hx (hb hby d1_22) (x := (2 : Int32)) (v := (3 : Int32)) rfl (by first | rfl | decide) (l' := #[.val (.ref a1), .val (.int (1 : Int32)), .val (.int (3 : Int32))]) rfl rfl ?_
      refine go_goto (q := 4) X0 hx (hb hby d1_25) (by decide) (by decide) ?_
      refine go_iload_n (q := 5) X0 hx (hb hby d1_4) (v := (3 : Int32)) rfl rfl ?_
      refine go_aload_n (q := 6) X0 hx (hb hby d1_5) (v := (.ref a1)) rfl rfl rfl ?_
      refine go_alen (q := 7) X0 hx hZ e0 A_0 (hb hby d1_6) rfl ?_
      refine go_icmpN (q := 10) X0 hx (hb hby d1_7) (XT.ii_ge_f (by decide)) rfl ?_
      refine go_aload_n (q := 11) X0 hx (hb hby d1_10) (v := (.ref a1)) rfl rfl rfl ?_
      refine go_iload_n (q := 12) X0 hx (hb hby d1_11) (v := (3 : Int32)) rfl rfl ?_
      refine go_daload (q := 13) (j := (3 : Int32)) (v := (.double (FP.i2d x3))) X0 hx hZ e0 A_0 (by decide) rfl (hb hby d1_12) rfl ?_
      refine go_aload_n (q := 14) X0 hx (hb hby d1_13) (v := (.ref a1)) rfl rfl rfl ?_
      refine go_iload_n (q := 15) X0 hx (hb hby d1_14) (v := (1 : Int32)) rfl rfl ?_
      refine go_daload (q := 16) (j := (1 : Int32)) (v := (.double (FP.i2d x1))) X0 hx hZ e0 A_0 (by decide) rfl (hb hby d1_15) rfl ?_
      refine go_dcmp (q := 17) X0 hx (hb hby d1_16)  rfl ?_
      by_cases c4 : x1 < x3
      · refine go_ifN (q := 20) X0 hx (hb hby d1_17) (XT.i0_le_f (own_gt c4)) rfl ?_
        refine go_iload_n (q := 21) X0 hx (hb hby d1_20) (v := (3 : Int32)) rfl rfl ?_
        refine go_istore_n (q := 22) X0 hx (hb hby d1_21) (l' := #[.val (.ref a1), .val (.int (3 : Int32)), .val (.int (3 : Int32))]) rfl rfl ?_
        refine go_iinc (q := 25) X0 hx (hb hby d1_22) (x := (3 : Int32)) (v := (4 : Int32)) rfl (by first | rfl | decide) (l' := #[.val (.ref a1), .val (.int (3 : Int32)), .val (.int (4 : Int32))]) rfl rfl ?_
        refine go_goto (q := 4) X0 hx (hb hby d1_25) (by decide) (by decide) ?_
        refine go_iload_n (q := 5) X0 hx (hb hby d1_4) (v := (4 : Int32)) rfl rfl ?_
        refine go_aload_n (q := 6) X0 hx (hb hby d1_5) (v := (.ref a1)) rfl rfl rfl ?_
        refine go_alen (q := 7) X0 hx hZ e0 A_0 (hb hby d1_6) rfl ?_
        refine go_icmpY (q := 28) X0 hx (hb hby d1_7) (XT.ii_ge_t (by decide)) (by decide) (by decide) ?_
        refine go_iload_n (q := 29) X0 hx (hb hby d1_28) (v := (3 : Int32)) rfl rfl ?_
        refine go_retI X0 hx hret hlk e0 (hb hby d1_29) (by simp) rfl (by decide) (by decide) ?_
        exact ⟨(3 : Int32), rfl, N0, (Keep.refl h0 []), (Or.inr (Or.inr (Or.inr (⟨rfl, by (simp only [Int32.lt_iff_toInt_lt] at *; omega), by (simp only [Int32.lt_iff_toInt_lt] at *; omega), by (simp only [Int32.lt_iff_toInt_lt] at *; omega)⟩))))⟩
      · refine go_ifY (q := 22) X0 hx (hb hby d1_17) (XT.i0_le_t (own_ngt c4)) (by decide) (by decide) ?_
        refine go_iinc (q := 25) X0 hx (hb hby d1_22) (x := (3 : Int32)) (v := (4 : Int32)) rfl (by first | rfl | decide) (l' := #[.val (.ref a1), .val (.int (1 : Int32)), .val (.int (4 : Int32))]) rfl rfl ?_
        refine go_goto (q := 4) X0 hx (hb hby d1_25) (by decide) (by decide) ?_
        refine go_iload_n (q := 5) X0 hx (hb hby d1_4) (v := (4 : Int32)) rfl rfl ?_
        refine go_aload_n (q := 6) X0 hx (hb hby d1_5) (v := (.ref a1)) rfl rfl rfl ?_
        refine go_alen (q := 7) X0 hx hZ e0 A_0 (hb hby d1_6) rfl ?_
        refine go_icmpY (q := 28) X0 hx (hb hby d1_7) (XT.ii_ge_t (by decide)) (by decide) (by decide) ?_
        refine go_iload_n (q := 29) X0 hx (hb hby d1_28) (v := (1 : Int32)) rfl rfl ?_
        refine go_retI X0 hx hret hlk e0 (hb hby d1_29) (by simp) rfl (by decide) (by decide) ?_
        exact ⟨(1 : Int32), rfl, N0, (Keep.refl h0 []), (Or.inr (Or.inl ⟨rfl, by (simp only [Int32.lt_iff_toInt_lt] at *; omega), by (simp only [Int32.lt_iff_toInt_lt] at *; omega), by (simp only [Int32.lt_iff_toInt_lt] at *; omega)⟩))⟩
  · refine go_ifY (q := 22) X0 hx (hb hby d1_17) (XT.i0_le_t (own_ngt c1)) (by decide) (by decide) ?_
    refine go_iinc (q := 25) X0 hx (hb hby d1_22) (x := (1 : Int32)) (v := (2 : Int32)) rfl (by first | rfl | decide) (l' := #[.val (.ref a1), .val (.int (0 : Int32)), .val (.int (2 : Int32))]) rfl rfl ?_
    refine go_goto (q := 4) X0 hx (hb hby d1_25) (by decide) (by decide) ?_
    refine go_iload_n (q := 5) X0 hx (hb hby d1_4) (v := (2 : Int32)) rfl rfl ?_
    refine go_aload_n (q := 6) X0 hx (hb hby d1_5) (v := (.ref a1)) rfl rfl rfl ?_
    refine go_alen (q := 7) X0 hx hZ e0 A_0 (hb hby d1_6) rfl ?_
    refine go_icmpN (q := 10) X0 hx (hb hby d1_7) (XT.ii_ge_f (by decide)) rfl ?_
    refine go_aload_n (q := 11) X0 hx (hb hby d1_10) (v := (.ref a1)) rfl rfl rfl ?_
    refine go_iload_n (q := 12) X0 hx (hb hby d1_11) (v := (2 : Int32)) rfl rfl ?_
    refine go_daload (q := 13) (j := (2 : Int32)) (v := (.double (FP.i2d x2))) X0 hx hZ e0 A_0 (by decide) rfl (hb hby d1_12) rfl ?_
    refine go_aload_n (q := 14) X0 hx (hb hby d1_13) (v := (.ref a1)) rfl rfl rfl ?_
    refine go_iload_n (q := 15) X0 hx (hb hby d1_14) (v := (0 : Int32)) rfl rfl ?_
    refine go_daload (q := 16) (j := (0 : Int32)) (v := (.double (FP.i2d x0))) X0 hx hZ e0 A_0 (by decide) rfl (hb hby d1_15) rfl ?_
    refine go_dcmp (q := 17) X0 hx (hb hby d1_16)  rfl ?_
    by_cases c5 : x0 < x2
    · refine go_ifN (q := 20) X0 hx (hb hby d1_17) (XT.i0_le_f (own_gt c5)) rfl ?_
      refine go_iload_n (q := 21) X0 hx (hb hby d1_20) (v := (2 : Int32)) rfl rfl ?_
      refine go_istore_n (q := 22) X0 hx (hb hby d1_21) (l' := #[.val (.ref a1), .val (.int (2 : Int32)), .val (.int (2 : Int32))]) rfl rfl ?_
      refine go_iinc (q := 25) X0 hx (hb hby d1_22) (x := (2 : Int32)) (v := (3 : Int32)) rfl (by first | rfl | decide) (l' := #[.val (.ref a1), .val (.int (2 : Int32)), .val (.int (3 : Int32))]) rfl rfl ?_
      refine go_goto (q := 4) X0 hx (hb hby d1_25) (by decide) (by decide) ?_
      refine go_iload_n (q := 5) X0 hx (hb hby d1_4) (v := (3 : Int32)) rfl rfl ?_
      refine go_aload_n (q := 6) X0 hx (hb hby d1_5) (v := (.ref a1)) rfl rfl rfl ?_
      refine go_alen (q := 7) X0 hx hZ e0 A_0 (hb hby d1_6) rfl ?_
      refine go_icmpN (q := 10) X0 hx (hb hby d1_7) (XT.ii_ge_f (by decide)) rfl ?_
      refine go_aload_n (q := 11) X0 hx (hb hby d1_10) (v := (.ref a1)) rfl rfl rfl ?_
      refine go_iload_n (q := 12) X0 hx (hb hby d1_11) (v := (3 : Int32)) rfl rfl ?_
      refine go_daload (q := 13) (j := (3 : Int32)) (v := (.double (FP.i2d x3))) X0 hx hZ e0 A_0 (by decide) rfl (hb hby d1_12) rfl ?_
      refine go_aload_n (q := 14) X0 hx (hb hby d1_13) (v := (.ref a1)) rfl rfl rfl ?_
      refine go_iload_n (q := 15) X0 hx (hb hby d1_14) (v := (2 : Int32)) rfl rfl ?_
      refine go_daload (q := 16) (j := (2 : Int32)) (v := (.double (FP.i2d x2))) X0 hx hZ e0 A_0 (by decide) rfl (hb hby d1_15) rfl ?_
      refine go_dcmp (q := 17) X0 hx (hb hby d1_16)  rfl ?_
      by_cases c6 : x2 < x3
      · refine go_ifN (q := 20) X0 hx (hb hby d1_17) (XT.i0_le_f (own_gt c6)) rfl ?_
        refine go_iload_n (q := 21) X0 hx (hb hby d1_20) (v := (3 : Int32)) rfl rfl ?_
        refine go_istore_n (q := 22) X0 hx (hb hby d1_21) (l' := #[.val (.ref a1), .val (.int (3 : Int32)), .val (.int (3 : Int32))]) rfl rfl ?_
        refine go_iinc (q := 25) X0 hx (hb hby d1_22) (x := (3 : Int32)) (v := (4 : Int32)) rfl (by first | rfl | decide) (l' := #[.val (.ref a1), .val (.int (3 : Int32)), .val (.int (4 : Int32))]) rfl rfl ?_
        refine go_goto (q := 4) X0 hx (hb hby d1_25) (by decide) (by decide) ?_
        refine go_iload_n (q := 5) X0 hx (hb hby d1_4) (v := (4 : Int32)) rfl rfl ?_
        refine go_aload_n (q := 6) X0 hx (hb hby d1_5) (v := (.ref a1)) rfl rfl rfl ?_
        refine go_alen (q := 7) X0 hx hZ e0 A_0 (hb hby d1_6) rfl ?_
        refine go_icmpY (q := 28) X0 hx (hb hby d1_7) (XT.ii_ge_t (by decide)) (by decide) (by decide) ?_
        refine go_iload_n (q := 29) X0 hx (hb hby d1_28) (v := (3 : Int32)) rfl rfl ?_
        refine go_retI X0 hx hret hlk e0 (hb hby d1_29) (by simp) rfl (by decide) (by decide) ?_
        exact ⟨(3 : Int32), rfl, N0, (Keep.refl h0 []), (Or.inr (Or.inr (Or.inr (⟨rfl, by (simp only [Int32.lt_iff_toInt_lt] at *; omega), by (simp only [Int32.lt_iff_toInt_lt] at *; omega), by (simp only [Int32.lt_iff_toInt_lt] at *; omega)⟩))))⟩
      · refine go_ifY (q := 22) X0 hx (hb hby d1_17) (XT.i0_le_t (own_ngt c6)) (by decide) (by decide) ?_
        refine go_iinc (q := 25) X0 hx (hb hby d1_22) (x := (3 : Int32)) (v := (4 : Int32)) rfl (by first | rfl | decide) (l' := #[.val (.ref a1), .val (.int (2 : Int32)), .val (.int (4 : Int32))]) rfl rfl ?_
        refine go_goto (q := 4) X0 hx (hb hby d1_25) (by decide) (by decide) ?_
        refine go_iload_n (q := 5) X0 hx (hb hby d1_4) (v := (4 : Int32)) rfl rfl ?_
        refine go_aload_n (q := 6) X0 hx (hb hby d1_5) (v := (.ref a1)) rfl rfl rfl ?_
        refine go_alen (q := 7) X0 hx hZ e0 A_0 (hb hby d1_6) rfl ?_
        refine go_icmpY (q := 28) X0 hx (hb hby d1_7) (XT.ii_ge_t (by decide)) (by decide) (by decide) ?_
        refine go_iload_n (q := 29) X0 hx (hb hby d1_28) (v := (2 : Int32)) rfl rfl ?_
        refine go_retI X0 hx hret hlk e0 (hb hby d1_29) (by simp) rfl (by decide) (by decide) ?_
        exact ⟨(2 : Int32), rfl, N0, (Keep.refl h0 []), (Or.inr (Or.inr (Or.inl ⟨rfl, by (simp only [Int32.lt_iff_toInt_lt] at *; omega), by (simp only [Int32.lt_iff_toInt_lt] at *; omega), by (simp only [Int32.lt_iff_toInt_lt] at *; omega)⟩)))⟩
    · refine go_ifY (q := 22) X0 hx (hb hby d1_17) (XT.i0_le_t (own_ngt c5)) (by decide) (by decide) ?_
      refine go_iinc (q := 25) X0 hx (hb hby d1_22) (x := (2 : Int32)) (v := (3 : Int32)) rfl (by first | rfl | decide) (l' := #[.val (.ref a1), .val (.int (0 : Int32)), .val (.int (3 : Int32))]) rfl rfl ?_
      refine go_goto (q := 4) X0 hx (hb hby d1_25) (by decide) (by decide) ?_
      refine go_iload_n (q := 5) X0 hx (hb hby d1_4) (v := (3 : Int32)) rfl rfl ?_
      refine go_aload_n (q := 6) X0 hx (hb hby d1_5) (v := (.ref a1)) rfl rfl rfl ?_
      refine go_alen (q := 7) X0 hx hZ e0 A_0 (hb hby d1_6) rfl ?_
      refine go_icmpN (q := 10) X0 hx (hb hby d1_7) (XT.ii_ge_f (by decide)) rfl ?_
      refine go_aload_n (q := 11) X0 hx (hb hby d1_10) (v := (.ref a1)) rfl rfl rfl ?_
      refine go_iload_n (q := 12) X0 hx (hb hby d1_11) (v := (3 : Int32)) rfl rfl ?_
      refine go_daload (q := 13) (j := (3 : Int32)) (v := (.double (FP.i2d x3))) X0 hx hZ e0 A_0 (by decide) rfl (hb hby d1_12) rfl ?_
      refine go_aload_n (q := 14) X0 hx (hb hby d1_13) (v := (.ref a1)) rfl rfl rfl ?_
      refine go_iload_n (q := 15) X0 hx (hb hby d1_14) (v := (0 : Int32)) rfl rfl ?_
      refine go_daload (q := 16) (j := (0 : Int32)) (v := (.double (FP.i2d x0))) X0 hx hZ e0 A_0 (by decide) rfl (hb hby d1_15) rfl ?_
      refine go_dcmp (q := 17) X0 hx (hb hby d1_16)  rfl ?_
      by_cases c7 : x0 < x3
      · refine go_ifN (q := 20) X0 hx (hb hby d1_17) (XT.i0_le_f (own_gt c7)) rfl ?_
        refine go_iload_n (q := 21) X0 hx (hb hby d1_20) (v := (3 : Int32)) rfl rfl ?_
        refine go_istore_n (q := 22) X0 hx (hb hby d1_21) (l' := #[.val (.ref a1), .val (.int (3 : Int32)), .val (.int (3 : Int32))]) rfl rfl ?_
        refine go_iinc (q := 25) X0 hx (hb hby d1_22) (x := (3 : Int32)) (v := (4 : Int32)) rfl (by first | rfl | decide) (l' := #[.val (.ref a1), .val (.int (3 : Int32)), .val (.int (4 : Int32))]) rfl rfl ?_
        refine go_goto (q := 4) X0 hx (hb hby d1_25) (by decide) (by decide) ?_
        refine go_iload_n (q := 5) X0 hx (hb hby d1_4) (v := (4 : Int32)) rfl rfl ?_
        refine go_aload_n (q := 6) X0 hx (hb hby d1_5) (v := (.ref a1)) rfl rfl rfl ?_
        refine go_alen (q := 7) X0 hx hZ e0 A_0 (hb hby d1_6) rfl ?_
        refine go_icmpY (q := 28) X0 hx (hb hby d1_7) (XT.ii_ge_t (by decide)) (by decide) (by decide) ?_
        refine go_iload_n (q := 29) X0 hx (hb hby d1_28) (v := (3 : Int32)) rfl rfl ?_
        refine go_retI X0 hx hret hlk e0 (hb hby d1_29) (by simp) rfl (by decide) (by decide) ?_
        exact ⟨(3 : Int32), rfl, N0, (Keep.refl h0 []), (Or.inr (Or.inr (Or.inr (⟨rfl, by (simp only [Int32.lt_iff_toInt_lt] at *; omega), by (simp only [Int32.lt_iff_toInt_lt] at *; omega), by (simp only [Int32.lt_iff_toInt_lt] at *; omega)⟩))))⟩
      · refine go_ifY (q := 22) X0 hx (hb hby d1_17) (XT.i0_le_t (own_ngt c7)) (by decide) (by decide) ?_
        refine go_iinc (q := 25) X0 hx (hb hby d1_22) (x := (3 : Int32)) (v := (4 : Int32)) rfl (by first | rfl | decide) (l' := #[.val (.ref a1), .val (.int (0 : Int32)), .val (.int (4 : Int32))]) rfl rfl ?_
        refine go_goto (q := 4) X0 hx (hb hby d1_25) (by decide) (by decide) ?_
        refine go_iload_n (q := 5) X0 hx (hb hby d1_4) (v := (4 : Int32)) rfl rfl ?_
        refine go_aload_n (q := 6) X0 hx (hb hby d1_5) (v := (.ref a1)) rfl rfl rfl ?_
        refine go_alen (q := 7) X0 hx hZ e0 A_0 (hb hby d1_6) rfl ?_
        refine go_icmpY (q := 28) X0 hx (hb hby d1_7) (XT.ii_ge_t (by decide)) (by decide) (by decide) ?_
        refine go_iload_n (q := 29) X0 hx (hb hby d1_28) (v := (0 : Int32)) rfl rfl ?_
        refine go_retI X0 hx hret hlk e0 (hb hby d1_29) (by simp) rfl (by decide) (by decide) ?_
        exact ⟨(0 : Int32), rfl, N0, (Keep.refl h0 []), (Or.inl ⟨rfl, by (simp only [Int32.lt_iff_toInt_lt] at *; omega), by (simp only [Int32.lt_iff_toInt_lt] at *; omega), by (simp only [Int32.lt_iff_toInt_lt] at *; omega)⟩)⟩
set_option maxRecDepth 65536 in
set_option maxHeartbeats 40000000 in
theorem b2 (l : Launch) (Z : State) (a0 : Array Value) (hw : ∀ d ∈ tables_1, d.before a0 Z = true) (a1 : Addr) (kk : ClassId) (nn : Int32) (vs : List Value) (dv : Value) (i : Int32) (r : Int32) (b : UInt64) (h0 : Heap) (n0 : Nat) (O0 : Old Z n0 h0) (A_0 : Arv Z h0 a1 kk .double nn vs dv) (r_1 : (¬ i < nn)) :
    Con l Z (⟨"com/example/causeway/causeway/model/SamplerMostLikelyPinLaw", "ok", "([DIID)Z"⟩ : MethodName) method_3_code 5 (some .boolean) ({ frames := 0, cells := 0, slots := 0, locals := 0 } : Room) #[(.ref a1), (.int i), (.int r), (.double b)] h0 (fun v h L => v = some (.int (1 : Int32)) ∧ Fr n0 L ∧ Keep h0 h []) := by
  refine Con.of (plainFor_of_name pn_1) ?_
  intro p e s m below meth c s₁ hx hby hml hZ hown hnm hret hlk X0 e0
  have N0 := Fr.nil n0
  refine go_cast (g' := mkF m 0 #[.val (.ref a1), .val (.int i), .val (.int r), .val (.double b), .second] []) ?_ (by first | (simp [entryFrame, mkF, argsToLocals, Value.category]; done) | rfl)
  refine go_iload_n (q := 1) X0 hx (hb hby d2_0) (v := i) rfl rfl ?_
  refine go_aload_n (q := 2) X0 hx (hb hby d2_1) (v := (.ref a1)) rfl rfl rfl ?_
  refine go_alen (q := 3) X0 hx hZ e0 A_0 (hb hby d2_2) rfl ?_
  refine go_icmpN (q := 6) X0 hx (hb hby d2_3) (XT.ii_lt_f r_1) rfl ?_
  refine go_iconst (q := 7) X0 hx (hb hby d2_6) (v := (1 : Int32)) (by decide) rfl ?_
  refine go_retI X0 hx hret hlk e0 (hb hby d2_7) (by simp) (by decide) (by decide) (by decide) ?_
  exact ⟨rfl, N0, (Keep.refl h0 [])⟩
set_option maxRecDepth 65536 in
set_option maxHeartbeats 40000000 in
theorem b2_1 (l : Launch) (Z : State) (a0 : Array Value) (hw : ∀ d ∈ tables_1, d.before a0 Z = true) (a1 : Addr) (kk : ClassId) (nn : Int32) (vs : List Value) (dv : Value) (i : Int32) (r : Int32) (x : Int32) (y : Int32) (h0 : Heap) (n0 : Nat) (O0 : Old Z n0 h0) (A_0 : Arv Z h0 a1 kk .double nn vs dv) (r_1 : (i < nn)) (r_2 : (vs.getD i.toNatClampNeg dv = (.double (FP.i2d x)))) (r_3 : (¬ i < 0)) (r_4 : (¬ y < x)) (r_5 : (¬ i < r)) :
    Con l Z (⟨"com/example/causeway/causeway/model/SamplerMostLikelyPinLaw", "ok", "([DIID)Z"⟩ : MethodName) method_3_code 5 (some .boolean) ({ frames := 0, cells := 0, slots := 0, locals := 0 } : Room) #[(.ref a1), (.int i), (.int r), (.double (FP.i2d y))] h0 (fun v h L => v = some (.int (1 : Int32)) ∧ Fr n0 L ∧ Keep h0 h []) := by
  refine Con.of (plainFor_of_name pn_1) ?_
  intro p e s m below meth c s₁ hx hby hml hZ hown hnm hret hlk X0 e0
  have N0 := Fr.nil n0
  refine go_cast (g' := mkF m 0 #[.val (.ref a1), .val (.int i), .val (.int r), .val (.double (FP.i2d y)), .second] []) ?_ (by first | (simp [entryFrame, mkF, argsToLocals, Value.category]; done) | rfl)
  refine go_iload_n (q := 1) X0 hx (hb hby d2_0) (v := i) rfl rfl ?_
  refine go_aload_n (q := 2) X0 hx (hb hby d2_1) (v := (.ref a1)) rfl rfl rfl ?_
  refine go_alen (q := 3) X0 hx hZ e0 A_0 (hb hby d2_2) rfl ?_
  refine go_icmpY (q := 8) X0 hx (hb hby d2_3) (XT.ii_lt_t r_1) (by decide) (by decide) ?_
  refine go_aload_n (q := 9) X0 hx (hb hby d2_8) (v := (.ref a1)) rfl rfl rfl ?_
  refine go_iload_n (q := 10) X0 hx (hb hby d2_9) (v := i) rfl rfl ?_
  refine go_daload (q := 11) (j := i) (v := (.double (FP.i2d x))) X0 hx hZ e0 A_0 ⟨r_3, r_1⟩ r_2 (hb hby d2_10) rfl ?_
  refine go_dload_n (q := 12) X0 hx (hb hby d2_11) (v := (FP.i2d y)) rfl rfl ?_
  refine go_dcmp (q := 13) X0 hx (hb hby d2_12)  rfl ?_
  refine go_ifY (q := 18) X0 hx (hb hby d2_13) (XT.i0_le_t (own_ngt r_4)) (by decide) (by decide) ?_
  refine go_iload_n (q := 19) X0 hx (hb hby d2_18) (v := i) rfl rfl ?_
  refine go_iload_n (q := 20) X0 hx (hb hby d2_19) (v := r) rfl rfl ?_
  refine go_icmpY (q := 33) X0 hx (hb hby d2_20) (XT.ii_ge_t r_5) (by decide) (by decide) ?_
  refine go_iconst (q := 34) X0 hx (hb hby d2_33) (v := (1 : Int32)) (by decide) rfl ?_
  refine go_retI X0 hx hret hlk e0 (hb hby d2_34) (by simp) (by decide) (by decide) (by decide) ?_
  exact ⟨rfl, N0, (Keep.refl h0 [])⟩
set_option maxRecDepth 65536 in
set_option maxHeartbeats 40000000 in
theorem b2_2 (l : Launch) (Z : State) (a0 : Array Value) (hw : ∀ d ∈ tables_1, d.before a0 Z = true) (a1 : Addr) (kk : ClassId) (nn : Int32) (vs : List Value) (dv : Value) (i : Int32) (r : Int32) (x : Int32) (y : Int32) (h0 : Heap) (n0 : Nat) (O0 : Old Z n0 h0) (A_0 : Arv Z h0 a1 kk .double nn vs dv) (r_1 : (i < nn)) (r_2 : (vs.getD i.toNatClampNeg dv = (.double (FP.i2d x)))) (r_3 : (¬ i < 0)) (r_4 : (¬ y < x)) (r_5 : (i < r)) (r_6 : (x < y)) :
    Con l Z (⟨"com/example/causeway/causeway/model/SamplerMostLikelyPinLaw", "ok", "([DIID)Z"⟩ : MethodName) method_3_code 5 (some .boolean) ({ frames := 0, cells := 0, slots := 0, locals := 0 } : Room) #[(.ref a1), (.int i), (.int r), (.double (FP.i2d y))] h0 (fun v h L => v = some (.int (1 : Int32)) ∧ Fr n0 L ∧ Keep h0 h []) := by
  refine Con.of (plainFor_of_name pn_1) ?_
  intro p e s m below meth c s₁ hx hby hml hZ hown hnm hret hlk X0 e0
  have N0 := Fr.nil n0
  refine go_cast (g' := mkF m 0 #[.val (.ref a1), .val (.int i), .val (.int r), .val (.double (FP.i2d y)), .second] []) ?_ (by first | (simp [entryFrame, mkF, argsToLocals, Value.category]; done) | rfl)
  refine go_iload_n (q := 1) X0 hx (hb hby d2_0) (v := i) rfl rfl ?_
  refine go_aload_n (q := 2) X0 hx (hb hby d2_1) (v := (.ref a1)) rfl rfl rfl ?_
  refine go_alen (q := 3) X0 hx hZ e0 A_0 (hb hby d2_2) rfl ?_
  refine go_icmpY (q := 8) X0 hx (hb hby d2_3) (XT.ii_lt_t r_1) (by decide) (by decide) ?_
  refine go_aload_n (q := 9) X0 hx (hb hby d2_8) (v := (.ref a1)) rfl rfl rfl ?_
  refine go_iload_n (q := 10) X0 hx (hb hby d2_9) (v := i) rfl rfl ?_
  refine go_daload (q := 11) (j := i) (v := (.double (FP.i2d x))) X0 hx hZ e0 A_0 ⟨r_3, r_1⟩ r_2 (hb hby d2_10) rfl ?_
  refine go_dload_n (q := 12) X0 hx (hb hby d2_11) (v := (FP.i2d y)) rfl rfl ?_
  refine go_dcmp (q := 13) X0 hx (hb hby d2_12)  rfl ?_
  refine go_ifY (q := 18) X0 hx (hb hby d2_13) (XT.i0_le_t (own_ngt r_4)) (by decide) (by decide) ?_
  refine go_iload_n (q := 19) X0 hx (hb hby d2_18) (v := i) rfl rfl ?_
  refine go_iload_n (q := 20) X0 hx (hb hby d2_19) (v := r) rfl rfl ?_
  refine go_icmpN (q := 23) X0 hx (hb hby d2_20) (XT.ii_ge_f r_5) rfl ?_
  refine go_aload_n (q := 24) X0 hx (hb hby d2_23) (v := (.ref a1)) rfl rfl rfl ?_
  refine go_iload_n (q := 25) X0 hx (hb hby d2_24) (v := i) rfl rfl ?_
  refine go_daload (q := 26) (j := i) (v := (.double (FP.i2d x))) X0 hx hZ e0 A_0 ⟨r_3, r_1⟩ r_2 (hb hby d2_25) rfl ?_
  refine go_dload_n (q := 27) X0 hx (hb hby d2_26) (v := (FP.i2d y)) rfl rfl ?_
  refine go_dcmp (q := 28) X0 hx (hb hby d2_27)  rfl ?_
  refine go_ifY (q := 33) X0 hx (hb hby d2_28) (XT.i0_lt_t (own_dlt r_6)) (by decide) (by decide) ?_
  refine go_iconst (q := 34) X0 hx (hb hby d2_33) (v := (1 : Int32)) (by decide) rfl ?_
  refine go_retI X0 hx hret hlk e0 (hb hby d2_34) (by simp) (by decide) (by decide) (by decide) ?_
  exact ⟨rfl, N0, (Keep.refl h0 [])⟩
set_option maxRecDepth 65536 in
set_option maxHeartbeats 40000000 in
theorem b0 (l : Launch) (Z : State) (a0 : Array Value) (hw : ∀ d ∈ tables_1, d.before a0 Z = true) (p0 : Int32) (x0 : Int32) (x1 : Int32) (x2 : Int32) (x3 : Int32) (h0 : Heap) (n0 : Nat) (O0 : Old Z n0 h0)  :
    Con l Z x code maxLocals ret room_1 #[(.int p0), (.int x0), (.int x1), (.int x2), (.int x3)] h0 (fun v h L => v = some (.int (1 : Int32)) ∧ Fr n0 L ∧ Keep h0 h []) := by
  refine Con.of (plainFor_of_name pn_1) ?_
  intro p e s m below meth c s₁ hx hby hml hZ hown hnm hret hlk X0 e0
  have N0 := Fr.nil n0
  refine go_cast (g' := mkF m 0 #[.val (.int p0), .val (.int x0), .val (.int x1), .val (.int x2), .val (.int x3), .unset, .unset, .unset, .unset, .unset] []) ?_ (by first | (simp [entryFrame, mkF, argsToLocals, Value.category, maxLocals]; done) | rfl)
  refine go_iconst (q := 1) X0 hx (hb hby at_0) (v := (1 : Int32)) (by decide) rfl ?_
  refine go_iload_n (q := 2) X0 hx (hb hby at_1) (v := p0) rfl rfl ?_
  refine go_iconst (q := 3) X0 hx (hb hby at_2) (v := (3 : Int32)) (by decide) rfl ?_
  refine go_iand (q := 4) X0 hx (hb hby at_3) (v := (p0 &&& (3 : Int32))) rfl rfl ?_
  refine go_iadd (q := 5) X0 hx (hb hby at_4) (v := ((1 : Int32) + (p0 &&& (3 : Int32)))) rfl rfl ?_
  refine go_istore (q := 7) X0 hx (hb hby at_5) (l' := #[.val (.int p0), .val (.int x0), .val (.int x1), .val (.int x2), .val (.int x3), .val (.int ((1 : Int32) + (p0 &&& (3 : Int32)))), .unset, .unset, .unset, .unset]) rfl rfl ?_
  rcases own_len p0 with c9 | c9 | c9 | c9
  · rw [c9]
    refine go_iload (q := 9) X0 hx (hb hby at_7) (v := (1 : Int32)) rfl rfl ?_
    refine go_newP (q := 11) (ty := .double) (cap := 1) (vs := [(.double 0)]) (dv := (.double 0)) X0 hx hZ rfl (w0 hw) e0 (hb hby at_9) (by decide) (by decide) (by decide) (by decide) (by decide) rfl rfl rfl ?_
    intro T1 h1 a1 k1 g1 X1 e1 E1 A1
    have fr1 : n0 ≤ a1 := own_ge O0 g1
    have sn1 : h0.size ≤ a1 := g1 ▸ (Nat.le_refl _)
    refine go_astore (q := 13) X1 hx (hb hby at_11) rfl (l' := #[.val (.int p0), .val (.int x0), .val (.int x1), .val (.int x2), .val (.int x3), .val (.int (1 : Int32)), .val (.ref a1), .unset, .unset, .unset]) rfl rfl ?_
    refine go_aload (q := 15) X1 hx (hb hby at_13) (v := (.ref a1)) rfl rfl rfl ?_
    refine go_iconst (q := 16) X1 hx (hb hby at_15) (v := (0 : Int32)) (by decide) rfl ?_
    refine go_iload_n (q := 17) X1 hx (hb hby at_16) (v := x0) rfl rfl ?_
    refine go_i2d (q := 18) X1 hx (hb hby at_17)  rfl ?_
    refine go_dastore (q := 19) (j := (0 : Int32)) (i := 0) (vs' := [(.double (FP.i2d x0))]) X1 hx hZ e1 A1 (by decide) (by decide) (show (0 : Nat) < 1 by decide) rfl (hb hby at_18) rfl ?_
    intro T2 h2 X2 e2 W2 A2
    have N2 := Fr.snoc X2 N0 fr1
    refine go_iload (q := 21) X2 hx (hb hby at_19) (v := (1 : Int32)) rfl rfl ?_
    refine go_iconst (q := 22) X2 hx (hb hby at_21) (v := (1 : Int32)) (by decide) rfl ?_
    refine go_icmpY (q := 31) X2 hx (hb hby at_22) (XT.ii_le_t (by decide)) (by decide) (by decide) ?_
    refine go_iload (q := 33) X2 hx (hb hby at_31) (v := (1 : Int32)) rfl rfl ?_
    refine go_iconst (q := 34) X2 hx (hb hby at_33) (v := (2 : Int32)) (by decide) rfl ?_
    refine go_icmpY (q := 43) X2 hx (hb hby at_34) (XT.ii_le_t (by decide)) (by decide) (by decide) ?_
    refine go_iload (q := 45) X2 hx (hb hby at_43) (v := (1 : Int32)) rfl rfl ?_
    refine go_iconst (q := 46) X2 hx (hb hby at_45) (v := (3 : Int32)) (by decide) rfl ?_
    refine go_icmpY (q := 56) X2 hx (hb hby at_46) (XT.ii_le_t (by decide)) (by decide) (by decide) ?_
    refine go_aload (q := 58) X2 hx (hb hby at_56) (v := (.ref a1)) rfl rfl rfl ?_
    have O3 : Old Z n0 h2 := ((O0.ext E1).wr W2 fr1)
    refine go_static (q := 61) X2 hx hZ hown (y := (⟨"com/example/causeway/causeway/model/Sampler", "mostLikely", "([D)I"⟩ : MethodName)) (w1 hw) (w2 hw) (w3 hw) (w4 hw) (by decide) e2 (b1 l Z a0 hw a1 k1 (.double 0) x0 h2 n0 O3 A2) (argsL := [(.ref a1)]) (rest := []) rfl (lenOf pd_0 rfl) rfl (by rw [hml]; rfl) (W := 0) (Nat.le_of_eq rfl) (hb hby at_58) (by decide) (by decide) (by decide) (by decide) rfl ?_
    rintro T4 h4 _ L4 X4 e4 ⟨r_4, rfl, M4, K4, p4_0⟩
    have N4 := Fr.app N2 M4
    rcases p4_0 with rfl
    · refine go_istore (q := 63) X4 hx (hb hby at_61) (l' := #[.val (.int p0), .val (.int x0), .val (.int x1), .val (.int x2), .val (.int x3), .val (.int (1 : Int32)), .val (.ref a1), .val (.int (0 : Int32)), .unset, .unset]) rfl rfl ?_
      refine go_iload (q := 65) X4 hx (hb hby at_63) (v := (0 : Int32)) rfl rfl ?_
      refine go_ifN (q := 68) X4 hx (hb hby at_65) (XT.i0_lt_f (by decide)) rfl ?_
      refine go_iload (q := 70) X4 hx (hb hby at_68) (v := (0 : Int32)) rfl rfl ?_
      refine go_iload (q := 72) X4 hx (hb hby at_70) (v := (1 : Int32)) rfl rfl ?_
      refine go_icmpY (q := 77) X4 hx (hb hby at_72) (XT.ii_lt_t (by decide)) (by decide) (by decide) ?_
      refine go_aload (q := 79) X4 hx (hb hby at_77) (v := (.ref a1)) rfl rfl rfl ?_
      refine go_iload (q := 81) X4 hx (hb hby at_79) (v := (0 : Int32)) rfl rfl ?_
      have f5 : Arv Z h4 a1 k1 .double (1 : Int32) [(.double (FP.i2d x0))] (.double 0) := (A2.keep K4 nin0)
      refine go_daload (q := 82) (j := (0 : Int32)) (v := (.double (FP.i2d x0))) X4 hx hZ e4 f5 (by decide) rfl (hb hby at_81) rfl ?_
      refine go_dstore (q := 84) X4 hx (hb hby at_82) (l' := #[.val (.int p0), .val (.int x0), .val (.int x1), .val (.int x2), .val (.int x3), .val (.int (1 : Int32)), .val (.ref a1), .val (.int (0 : Int32)), .val (.double (FP.i2d x0)), .second]) rfl rfl ?_
      refine go_aload (q := 86) X4 hx (hb hby at_84) (v := (.ref a1)) rfl rfl rfl ?_
      refine go_iconst (q := 87) X4 hx (hb hby at_86) (v := (0 : Int32)) (by decide) rfl ?_
      refine go_iload (q := 89) X4 hx (hb hby at_87) (v := (0 : Int32)) rfl rfl ?_
      refine go_dload (q := 91) X4 hx (hb hby at_89) (v := (FP.i2d x0)) rfl rfl ?_
      have O6 : Old Z n0 h4 := (O3.keep K4 all0)
      refine go_static (q := 94) X4 hx hZ hown (y := (⟨"com/example/causeway/causeway/model/SamplerMostLikelyPinLaw", "ok", "([DIID)Z"⟩ : MethodName)) (w5 hw) (w6 hw) (w7 hw) (w8 hw) (by decide) e4 (b2_1 l Z a0 hw a1 k1 (1 : Int32) [(.double (FP.i2d x0))] (.double 0) (0 : Int32) (0 : Int32) x0 x0 h4 n0 O6 f5 (by decide) rfl (by decide) (own_irr _) (by decide)) (argsL := [(.ref a1), (.int (0 : Int32)), (.int (0 : Int32)), (.double (FP.i2d x0))]) (rest := []) rfl (lenOf pd_1 rfl) rfl (by rw [hml]; rfl) (W := 0) (Nat.le_of_eq rfl) (hb hby at_91) (by decide) (by decide) (by decide) (by decide) rfl ?_
      rintro T7 h7 _ L7 X7 e7 ⟨rfl, M7, K7⟩
      have N7 := Fr.app N4 M7
      refine go_ifN (q := 97) X7 hx (hb hby at_94) (XT.i0_eq_f (by decide)) rfl ?_
      refine go_aload (q := 99) X7 hx (hb hby at_97) (v := (.ref a1)) rfl rfl rfl ?_
      refine go_iconst (q := 100) X7 hx (hb hby at_99) (v := (1 : Int32)) (by decide) rfl ?_
      refine go_iload (q := 102) X7 hx (hb hby at_100) (v := (0 : Int32)) rfl rfl ?_
      refine go_dload (q := 104) X7 hx (hb hby at_102) (v := (FP.i2d x0)) rfl rfl ?_
      have f8 : Arv Z h7 a1 k1 .double (1 : Int32) [(.double (FP.i2d x0))] (.double 0) := (f5.keep K7 nin0)
      have O9 : Old Z n0 h7 := (O6.keep K7 all0)
      refine go_static (q := 107) X7 hx hZ hown (y := (⟨"com/example/causeway/causeway/model/SamplerMostLikelyPinLaw", "ok", "([DIID)Z"⟩ : MethodName)) (w5 hw) (w6 hw) (w7 hw) (w8 hw) (by decide) e7 (b2 l Z a0 hw a1 k1 (1 : Int32) [(.double (FP.i2d x0))] (.double 0) (1 : Int32) (0 : Int32) (FP.i2d x0) h7 n0 O9 f8 (by decide)) (argsL := [(.ref a1), (.int (1 : Int32)), (.int (0 : Int32)), (.double (FP.i2d x0))]) (rest := []) rfl (lenOf pd_1 rfl) rfl (by rw [hml]; rfl) (W := 0) (Nat.le_of_eq rfl) (hb hby at_104) (by decide) (by decide) (by decide) (by decide) rfl ?_
      rintro T10 h10 _ L10 X10 e10 ⟨rfl, M10, K10⟩
      have N10 := Fr.app N7 M10
      refine go_ifN (q := 110) X10 hx (hb hby at_107) (XT.i0_eq_f (by decide)) rfl ?_
      refine go_aload (q := 112) X10 hx (hb hby at_110) (v := (.ref a1)) rfl rfl rfl ?_
      refine go_iconst (q := 113) X10 hx (hb hby at_112) (v := (2 : Int32)) (by decide) rfl ?_
      refine go_iload (q := 115) X10 hx (hb hby at_113) (v := (0 : Int32)) rfl rfl ?_
      refine go_dload (q := 117) X10 hx (hb hby at_115) (v := (FP.i2d x0)) rfl rfl ?_
      have f11 : Arv Z h10 a1 k1 .double (1 : Int32) [(.double (FP.i2d x0))] (.double 0) := (f8.keep K10 nin0)
      have O12 : Old Z n0 h10 := (O9.keep K10 all0)
      refine go_static (q := 120) X10 hx hZ hown (y := (⟨"com/example/causeway/causeway/model/SamplerMostLikelyPinLaw", "ok", "([DIID)Z"⟩ : MethodName)) (w5 hw) (w6 hw) (w7 hw) (w8 hw) (by decide) e10 (b2 l Z a0 hw a1 k1 (1 : Int32) [(.double (FP.i2d x0))] (.double 0) (2 : Int32) (0 : Int32) (FP.i2d x0) h10 n0 O12 f11 (by decide)) (argsL := [(.ref a1), (.int (2 : Int32)), (.int (0 : Int32)), (.double (FP.i2d x0))]) (rest := []) rfl (lenOf pd_1 rfl) rfl (by rw [hml]; rfl) (W := 0) (Nat.le_of_eq rfl) (hb hby at_117) (by decide) (by decide) (by decide) (by decide) rfl ?_
      rintro T13 h13 _ L13 X13 e13 ⟨rfl, M13, K13⟩
      have N13 := Fr.app N10 M13
      refine go_ifN (q := 123) X13 hx (hb hby at_120) (XT.i0_eq_f (by decide)) rfl ?_
      refine go_aload (q := 125) X13 hx (hb hby at_123) (v := (.ref a1)) rfl rfl rfl ?_
      refine go_iconst (q := 126) X13 hx (hb hby at_125) (v := (3 : Int32)) (by decide) rfl ?_
      refine go_iload (q := 128) X13 hx (hb hby at_126) (v := (0 : Int32)) rfl rfl ?_
      refine go_dload (q := 130) X13 hx (hb hby at_128) (v := (FP.i2d x0)) rfl rfl ?_
      have f14 : Arv Z h13 a1 k1 .double (1 : Int32) [(.double (FP.i2d x0))] (.double 0) := (f11.keep K13 nin0)
      have O15 : Old Z n0 h13 := (O12.keep K13 all0)
      refine go_static (q := 133) X13 hx hZ hown (y := (⟨"com/example/causeway/causeway/model/SamplerMostLikelyPinLaw", "ok", "([DIID)Z"⟩ : MethodName)) (w5 hw) (w6 hw) (w7 hw) (w8 hw) (by decide) e13 (b2 l Z a0 hw a1 k1 (1 : Int32) [(.double (FP.i2d x0))] (.double 0) (3 : Int32) (0 : Int32) (FP.i2d x0) h13 n0 O15 f14 (by decide)) (argsL := [(.ref a1), (.int (3 : Int32)), (.int (0 : Int32)), (.double (FP.i2d x0))]) (rest := []) rfl (lenOf pd_1 rfl) rfl (by rw [hml]; rfl) (W := 0) (Nat.le_of_eq rfl) (hb hby at_130) (by decide) (by decide) (by decide) (by decide) rfl ?_
      rintro T16 h16 _ L16 X16 e16 ⟨rfl, M16, K16⟩
      have N16 := Fr.app N13 M16
      refine go_ifN (q := 136) X16 hx (hb hby at_133) (XT.i0_eq_f (by decide)) rfl ?_
      refine go_iconst (q := 137) X16 hx (hb hby at_136) (v := (1 : Int32)) (by decide) rfl ?_
      refine go_goto (q := 141) X16 hx (hb hby at_137) (by decide) (by decide) ?_
      refine go_retI X16 hx hret hlk e16 (hb hby at_141) (by simp) (by decide) (by decide) (by decide) ?_
      exact ⟨rfl, N16, ((((((((Keep.refl h0 []).ext E1).wr W2 (Or.inr sn1)).trans K4 all0).trans K7 all0).trans K10 all0).trans K13 all0).trans K16 all0)⟩
  · rw [c9]
    refine go_iload (q := 9) X0 hx (hb hby at_7) (v := (2 : Int32)) rfl rfl ?_
    refine go_newP (q := 11) (ty := .double) (cap := 2) (vs := [(.double 0), (.double 0)]) (dv := (.double 0)) X0 hx hZ rfl (w0 hw) e0 (hb hby at_9) (by decide) (by decide) (by decide) (by decide) (by decide) rfl rfl rfl ?_
    intro T17 h17 a17 k17 g17 X17 e17 E17 A17
    have fr17 : n0 ≤ a17 := own_ge O0 g17
    have sn17 : h0.size ≤ a17 := g17 ▸ (Nat.le_refl _)
    refine go_astore (q := 13) X17 hx (hb hby at_11) rfl (l' := #[.val (.int p0), .val (.int x0), .val (.int x1), .val (.int x2), .val (.int x3), .val (.int (2 : Int32)), .val (.ref a17), .unset, .unset, .unset]) rfl rfl ?_
    refine go_aload (q := 15) X17 hx (hb hby at_13) (v := (.ref a17)) rfl rfl rfl ?_
    refine go_iconst (q := 16) X17 hx (hb hby at_15) (v := (0 : Int32)) (by decide) rfl ?_
    refine go_iload_n (q := 17) X17 hx (hb hby at_16) (v := x0) rfl rfl ?_
    refine go_i2d (q := 18) X17 hx (hb hby at_17)  rfl ?_
    refine go_dastore (q := 19) (j := (0 : Int32)) (i := 0) (vs' := [(.double (FP.i2d x0)), (.double 0)]) X17 hx hZ e17 A17 (by decide) (by decide) (show (0 : Nat) < 2 by decide) rfl (hb hby at_18) rfl ?_
    intro T18 h18 X18 e18 W18 A18
    have N18 := Fr.snoc X18 N0 fr17
    refine go_iload (q := 21) X18 hx (hb hby at_19) (v := (2 : Int32)) rfl rfl ?_
    refine go_iconst (q := 22) X18 hx (hb hby at_21) (v := (1 : Int32)) (by decide) rfl ?_
    refine go_icmpN (q := 25) X18 hx (hb hby at_22) (XT.ii_le_f (by decide)) rfl ?_
    refine go_aload (q := 27) X18 hx (hb hby at_25) (v := (.ref a17)) rfl rfl rfl ?_
    refine go_iconst (q := 28) X18 hx (hb hby at_27) (v := (1 : Int32)) (by decide) rfl ?_
    refine go_iload_n (q := 29) X18 hx (hb hby at_28) (v := x1) rfl rfl ?_
    refine go_i2d (q := 30) X18 hx (hb hby at_29)  rfl ?_
    refine go_dastore (q := 31) (j := (1 : Int32)) (i := 1) (vs' := [(.double (FP.i2d x0)), (.double (FP.i2d x1))]) X18 hx hZ e18 A18 (by decide) (by decide) (show (1 : Nat) < 2 by decide) rfl (hb hby at_30) rfl ?_
    intro T19 h19 X19 e19 W19 A19
    have N19 := Fr.snoc X19 N18 fr17
    refine go_iload (q := 33) X19 hx (hb hby at_31) (v := (2 : Int32)) rfl rfl ?_
    refine go_iconst (q := 34) X19 hx (hb hby at_33) (v := (2 : Int32)) (by decide) rfl ?_
    refine go_icmpY (q := 43) X19 hx (hb hby at_34) (XT.ii_le_t (by decide)) (by decide) (by decide) ?_
    refine go_iload (q := 45) X19 hx (hb hby at_43) (v := (2 : Int32)) rfl rfl ?_
    refine go_iconst (q := 46) X19 hx (hb hby at_45) (v := (3 : Int32)) (by decide) rfl ?_
    refine go_icmpY (q := 56) X19 hx (hb hby at_46) (XT.ii_le_t (by decide)) (by decide) (by decide) ?_
    refine go_aload (q := 58) X19 hx (hb hby at_56) (v := (.ref a17)) rfl rfl rfl ?_
    have O20 : Old Z n0 h19 := (((O0.ext E17).wr W18 fr17).wr W19 fr17)
    refine go_static (q := 61) X19 hx hZ hown (y := (⟨"com/example/causeway/causeway/model/Sampler", "mostLikely", "([D)I"⟩ : MethodName)) (w1 hw) (w2 hw) (w3 hw) (w4 hw) (by decide) e19 (b1_1 l Z a0 hw a17 k17 (.double 0) x0 x1 h19 n0 O20 A19) (argsL := [(.ref a17)]) (rest := []) rfl (lenOf pd_0 rfl) rfl (by rw [hml]; rfl) (W := 0) (Nat.le_of_eq rfl) (hb hby at_58) (by decide) (by decide) (by decide) (by decide) rfl ?_
    rintro T21 h21 _ L21 X21 e21 ⟨r_21, rfl, M21, K21, p21_0⟩
    have N21 := Fr.app N19 M21
    rcases p21_0 with ⟨rfl, z1⟩ | ⟨rfl, z0⟩
    · refine go_istore (q := 63) X21 hx (hb hby at_61) (l' := #[.val (.int p0), .val (.int x0), .val (.int x1), .val (.int x2), .val (.int x3), .val (.int (2 : Int32)), .val (.ref a17), .val (.int (0 : Int32)), .unset, .unset]) rfl rfl ?_
      refine go_iload (q := 65) X21 hx (hb hby at_63) (v := (0 : Int32)) rfl rfl ?_
      refine go_ifN (q := 68) X21 hx (hb hby at_65) (XT.i0_lt_f (by decide)) rfl ?_
      refine go_iload (q := 70) X21 hx (hb hby at_68) (v := (0 : Int32)) rfl rfl ?_
      refine go_iload (q := 72) X21 hx (hb hby at_70) (v := (2 : Int32)) rfl rfl ?_
      refine go_icmpY (q := 77) X21 hx (hb hby at_72) (XT.ii_lt_t (by decide)) (by decide) (by decide) ?_
      refine go_aload (q := 79) X21 hx (hb hby at_77) (v := (.ref a17)) rfl rfl rfl ?_
      refine go_iload (q := 81) X21 hx (hb hby at_79) (v := (0 : Int32)) rfl rfl ?_
      have f22 : Arv Z h21 a17 k17 .double (2 : Int32) [(.double (FP.i2d x0)), (.double (FP.i2d x1))] (.double 0) := (A19.keep K21 nin0)
      refine go_daload (q := 82) (j := (0 : Int32)) (v := (.double (FP.i2d x0))) X21 hx hZ e21 f22 (by decide) rfl (hb hby at_81) rfl ?_
      refine go_dstore (q := 84) X21 hx (hb hby at_82) (l' := #[.val (.int p0), .val (.int x0), .val (.int x1), .val (.int x2), .val (.int x3), .val (.int (2 : Int32)), .val (.ref a17), .val (.int (0 : Int32)), .val (.double (FP.i2d x0)), .second]) rfl rfl ?_
      refine go_aload (q := 86) X21 hx (hb hby at_84) (v := (.ref a17)) rfl rfl rfl ?_
      refine go_iconst (q := 87) X21 hx (hb hby at_86) (v := (0 : Int32)) (by decide) rfl ?_
      refine go_iload (q := 89) X21 hx (hb hby at_87) (v := (0 : Int32)) rfl rfl ?_
      refine go_dload (q := 91) X21 hx (hb hby at_89) (v := (FP.i2d x0)) rfl rfl ?_
      have O23 : Old Z n0 h21 := (O20.keep K21 all0)
      refine go_static (q := 94) X21 hx hZ hown (y := (⟨"com/example/causeway/causeway/model/SamplerMostLikelyPinLaw", "ok", "([DIID)Z"⟩ : MethodName)) (w5 hw) (w6 hw) (w7 hw) (w8 hw) (by decide) e21 (b2_1 l Z a0 hw a17 k17 (2 : Int32) [(.double (FP.i2d x0)), (.double (FP.i2d x1))] (.double 0) (0 : Int32) (0 : Int32) x0 x0 h21 n0 O23 f22 (by decide) rfl (by decide) (own_irr _) (by decide)) (argsL := [(.ref a17), (.int (0 : Int32)), (.int (0 : Int32)), (.double (FP.i2d x0))]) (rest := []) rfl (lenOf pd_1 rfl) rfl (by rw [hml]; rfl) (W := 0) (Nat.le_of_eq rfl) (hb hby at_91) (by decide) (by decide) (by decide) (by decide) rfl ?_
      rintro T24 h24 _ L24 X24 e24 ⟨rfl, M24, K24⟩
      have N24 := Fr.app N21 M24
      refine go_ifN (q := 97) X24 hx (hb hby at_94) (XT.i0_eq_f (by decide)) rfl ?_
      refine go_aload (q := 99) X24 hx (hb hby at_97) (v := (.ref a17)) rfl rfl rfl ?_
      refine go_iconst (q := 100) X24 hx (hb hby at_99) (v := (1 : Int32)) (by decide) rfl ?_
      refine go_iload (q := 102) X24 hx (hb hby at_100) (v := (0 : Int32)) rfl rfl ?_
      refine go_dload (q := 104) X24 hx (hb hby at_102) (v := (FP.i2d x0)) rfl rfl ?_
      have f25 : Arv Z h24 a17 k17 .double (2 : Int32) [(.double (FP.i2d x0)), (.double (FP.i2d x1))] (.double 0) := (f22.keep K24 nin0)
      have O26 : Old Z n0 h24 := (O23.keep K24 all0)
      refine go_static (q := 107) X24 hx hZ hown (y := (⟨"com/example/causeway/causeway/model/SamplerMostLikelyPinLaw", "ok", "([DIID)Z"⟩ : MethodName)) (w5 hw) (w6 hw) (w7 hw) (w8 hw) (by decide) e24 (b2_1 l Z a0 hw a17 k17 (2 : Int32) [(.double (FP.i2d x0)), (.double (FP.i2d x1))] (.double 0) (1 : Int32) (0 : Int32) x1 x0 h24 n0 O26 f25 (by decide) rfl (by decide) z1 (by decide)) (argsL := [(.ref a17), (.int (1 : Int32)), (.int (0 : Int32)), (.double (FP.i2d x0))]) (rest := []) rfl (lenOf pd_1 rfl) rfl (by rw [hml]; rfl) (W := 0) (Nat.le_of_eq rfl) (hb hby at_104) (by decide) (by decide) (by decide) (by decide) rfl ?_
      rintro T27 h27 _ L27 X27 e27 ⟨rfl, M27, K27⟩
      have N27 := Fr.app N24 M27
      refine go_ifN (q := 110) X27 hx (hb hby at_107) (XT.i0_eq_f (by decide)) rfl ?_
      refine go_aload (q := 112) X27 hx (hb hby at_110) (v := (.ref a17)) rfl rfl rfl ?_
      refine go_iconst (q := 113) X27 hx (hb hby at_112) (v := (2 : Int32)) (by decide) rfl ?_
      refine go_iload (q := 115) X27 hx (hb hby at_113) (v := (0 : Int32)) rfl rfl ?_
      refine go_dload (q := 117) X27 hx (hb hby at_115) (v := (FP.i2d x0)) rfl rfl ?_
      have f28 : Arv Z h27 a17 k17 .double (2 : Int32) [(.double (FP.i2d x0)), (.double (FP.i2d x1))] (.double 0) := (f25.keep K27 nin0)
      have O29 : Old Z n0 h27 := (O26.keep K27 all0)
      refine go_static (q := 120) X27 hx hZ hown (y := (⟨"com/example/causeway/causeway/model/SamplerMostLikelyPinLaw", "ok", "([DIID)Z"⟩ : MethodName)) (w5 hw) (w6 hw) (w7 hw) (w8 hw) (by decide) e27 (b2 l Z a0 hw a17 k17 (2 : Int32) [(.double (FP.i2d x0)), (.double (FP.i2d x1))] (.double 0) (2 : Int32) (0 : Int32) (FP.i2d x0) h27 n0 O29 f28 (by decide)) (argsL := [(.ref a17), (.int (2 : Int32)), (.int (0 : Int32)), (.double (FP.i2d x0))]) (rest := []) rfl (lenOf pd_1 rfl) rfl (by rw [hml]; rfl) (W := 0) (Nat.le_of_eq rfl) (hb hby at_117) (by decide) (by decide) (by decide) (by decide) rfl ?_
      rintro T30 h30 _ L30 X30 e30 ⟨rfl, M30, K30⟩
      have N30 := Fr.app N27 M30
      refine go_ifN (q := 123) X30 hx (hb hby at_120) (XT.i0_eq_f (by decide)) rfl ?_
      refine go_aload (q := 125) X30 hx (hb hby at_123) (v := (.ref a17)) rfl rfl rfl ?_
      refine go_iconst (q := 126) X30 hx (hb hby at_125) (v := (3 : Int32)) (by decide) rfl ?_
      refine go_iload (q := 128) X30 hx (hb hby at_126) (v := (0 : Int32)) rfl rfl ?_
      refine go_dload (q := 130) X30 hx (hb hby at_128) (v := (FP.i2d x0)) rfl rfl ?_
      have f31 : Arv Z h30 a17 k17 .double (2 : Int32) [(.double (FP.i2d x0)), (.double (FP.i2d x1))] (.double 0) := (f28.keep K30 nin0)
      have O32 : Old Z n0 h30 := (O29.keep K30 all0)
      refine go_static (q := 133) X30 hx hZ hown (y := (⟨"com/example/causeway/causeway/model/SamplerMostLikelyPinLaw", "ok", "([DIID)Z"⟩ : MethodName)) (w5 hw) (w6 hw) (w7 hw) (w8 hw) (by decide) e30 (b2 l Z a0 hw a17 k17 (2 : Int32) [(.double (FP.i2d x0)), (.double (FP.i2d x1))] (.double 0) (3 : Int32) (0 : Int32) (FP.i2d x0) h30 n0 O32 f31 (by decide)) (argsL := [(.ref a17), (.int (3 : Int32)), (.int (0 : Int32)), (.double (FP.i2d x0))]) (rest := []) rfl (lenOf pd_1 rfl) rfl (by rw [hml]; rfl) (W := 0) (Nat.le_of_eq rfl) (hb hby at_130) (by decide) (by decide) (by decide) (by decide) rfl ?_
      rintro T33 h33 _ L33 X33 e33 ⟨rfl, M33, K33⟩
      have N33 := Fr.app N30 M33
      refine go_ifN (q := 136) X33 hx (hb hby at_133) (XT.i0_eq_f (by decide)) rfl ?_
      refine go_iconst (q := 137) X33 hx (hb hby at_136) (v := (1 : Int32)) (by decide) rfl ?_
      refine go_goto (q := 141) X33 hx (hb hby at_137) (by decide) (by decide) ?_
      refine go_retI X33 hx hret hlk e33 (hb hby at_141) (by simp) (by decide) (by decide) (by decide) ?_
      exact ⟨rfl, N33, (((((((((Keep.refl h0 []).ext E17).wr W18 (Or.inr sn17)).wr W19 (Or.inr sn17)).trans K21 all0).trans K24 all0).trans K27 all0).trans K30 all0).trans K33 all0)⟩
    · refine go_istore (q := 63) X21 hx (hb hby at_61) (l' := #[.val (.int p0), .val (.int x0), .val (.int x1), .val (.int x2), .val (.int x3), .val (.int (2 : Int32)), .val (.ref a17), .val (.int (1 : Int32)), .unset, .unset]) rfl rfl ?_
      refine go_iload (q := 65) X21 hx (hb hby at_63) (v := (1 : Int32)) rfl rfl ?_
      refine go_ifN (q := 68) X21 hx (hb hby at_65) (XT.i0_lt_f (by decide)) rfl ?_
      refine go_iload (q := 70) X21 hx (hb hby at_68) (v := (1 : Int32)) rfl rfl ?_
      refine go_iload (q := 72) X21 hx (hb hby at_70) (v := (2 : Int32)) rfl rfl ?_
      refine go_icmpY (q := 77) X21 hx (hb hby at_72) (XT.ii_lt_t (by decide)) (by decide) (by decide) ?_
      refine go_aload (q := 79) X21 hx (hb hby at_77) (v := (.ref a17)) rfl rfl rfl ?_
      refine go_iload (q := 81) X21 hx (hb hby at_79) (v := (1 : Int32)) rfl rfl ?_
      have f34 : Arv Z h21 a17 k17 .double (2 : Int32) [(.double (FP.i2d x0)), (.double (FP.i2d x1))] (.double 0) := (A19.keep K21 nin0)
      refine go_daload (q := 82) (j := (1 : Int32)) (v := (.double (FP.i2d x1))) X21 hx hZ e21 f34 (by decide) rfl (hb hby at_81) rfl ?_
      refine go_dstore (q := 84) X21 hx (hb hby at_82) (l' := #[.val (.int p0), .val (.int x0), .val (.int x1), .val (.int x2), .val (.int x3), .val (.int (2 : Int32)), .val (.ref a17), .val (.int (1 : Int32)), .val (.double (FP.i2d x1)), .second]) rfl rfl ?_
      refine go_aload (q := 86) X21 hx (hb hby at_84) (v := (.ref a17)) rfl rfl rfl ?_
      refine go_iconst (q := 87) X21 hx (hb hby at_86) (v := (0 : Int32)) (by decide) rfl ?_
      refine go_iload (q := 89) X21 hx (hb hby at_87) (v := (1 : Int32)) rfl rfl ?_
      refine go_dload (q := 91) X21 hx (hb hby at_89) (v := (FP.i2d x1)) rfl rfl ?_
      have O35 : Old Z n0 h21 := (O20.keep K21 all0)
      refine go_static (q := 94) X21 hx hZ hown (y := (⟨"com/example/causeway/causeway/model/SamplerMostLikelyPinLaw", "ok", "([DIID)Z"⟩ : MethodName)) (w5 hw) (w6 hw) (w7 hw) (w8 hw) (by decide) e21 (b2_2 l Z a0 hw a17 k17 (2 : Int32) [(.double (FP.i2d x0)), (.double (FP.i2d x1))] (.double 0) (0 : Int32) (1 : Int32) x0 x1 h21 n0 O35 f34 (by decide) rfl (by decide) (own_asym z0) (by decide) z0) (argsL := [(.ref a17), (.int (0 : Int32)), (.int (1 : Int32)), (.double (FP.i2d x1))]) (rest := []) rfl (lenOf pd_1 rfl) rfl (by rw [hml]; rfl) (W := 0) (Nat.le_of_eq rfl) (hb hby at_91) (by decide) (by decide) (by decide) (by decide) rfl ?_
      rintro T36 h36 _ L36 X36 e36 ⟨rfl, M36, K36⟩
      have N36 := Fr.app N21 M36
      refine go_ifN (q := 97) X36 hx (hb hby at_94) (XT.i0_eq_f (by decide)) rfl ?_
      refine go_aload (q := 99) X36 hx (hb hby at_97) (v := (.ref a17)) rfl rfl rfl ?_
      refine go_iconst (q := 100) X36 hx (hb hby at_99) (v := (1 : Int32)) (by decide) rfl ?_
      refine go_iload (q := 102) X36 hx (hb hby at_100) (v := (1 : Int32)) rfl rfl ?_
      refine go_dload (q := 104) X36 hx (hb hby at_102) (v := (FP.i2d x1)) rfl rfl ?_
      have f37 : Arv Z h36 a17 k17 .double (2 : Int32) [(.double (FP.i2d x0)), (.double (FP.i2d x1))] (.double 0) := (f34.keep K36 nin0)
      have O38 : Old Z n0 h36 := (O35.keep K36 all0)
      refine go_static (q := 107) X36 hx hZ hown (y := (⟨"com/example/causeway/causeway/model/SamplerMostLikelyPinLaw", "ok", "([DIID)Z"⟩ : MethodName)) (w5 hw) (w6 hw) (w7 hw) (w8 hw) (by decide) e36 (b2_1 l Z a0 hw a17 k17 (2 : Int32) [(.double (FP.i2d x0)), (.double (FP.i2d x1))] (.double 0) (1 : Int32) (1 : Int32) x1 x1 h36 n0 O38 f37 (by decide) rfl (by decide) (own_irr _) (by decide)) (argsL := [(.ref a17), (.int (1 : Int32)), (.int (1 : Int32)), (.double (FP.i2d x1))]) (rest := []) rfl (lenOf pd_1 rfl) rfl (by rw [hml]; rfl) (W := 0) (Nat.le_of_eq rfl) (hb hby at_104) (by decide) (by decide) (by decide) (by decide) rfl ?_
      rintro T39 h39 _ L39 X39 e39 ⟨rfl, M39, K39⟩
      have N39 := Fr.app N36 M39
      refine go_ifN (q := 110) X39 hx (hb hby at_107) (XT.i0_eq_f (by decide)) rfl ?_
      refine go_aload (q := 112) X39 hx (hb hby at_110) (v := (.ref a17)) rfl rfl rfl ?_
      refine go_iconst (q := 113) X39 hx (hb hby at_112) (v := (2 : Int32)) (by decide) rfl ?_
      refine go_iload (q := 115) X39 hx (hb hby at_113) (v := (1 : Int32)) rfl rfl ?_
      refine go_dload (q := 117) X39 hx (hb hby at_115) (v := (FP.i2d x1)) rfl rfl ?_
      have f40 : Arv Z h39 a17 k17 .double (2 : Int32) [(.double (FP.i2d x0)), (.double (FP.i2d x1))] (.double 0) := (f37.keep K39 nin0)
      have O41 : Old Z n0 h39 := (O38.keep K39 all0)
      refine go_static (q := 120) X39 hx hZ hown (y := (⟨"com/example/causeway/causeway/model/SamplerMostLikelyPinLaw", "ok", "([DIID)Z"⟩ : MethodName)) (w5 hw) (w6 hw) (w7 hw) (w8 hw) (by decide) e39 (b2 l Z a0 hw a17 k17 (2 : Int32) [(.double (FP.i2d x0)), (.double (FP.i2d x1))] (.double 0) (2 : Int32) (1 : Int32) (FP.i2d x1) h39 n0 O41 f40 (by decide)) (argsL := [(.ref a17), (.int (2 : Int32)), (.int (1 : Int32)), (.double (FP.i2d x1))]) (rest := []) rfl (lenOf pd_1 rfl) rfl (by rw [hml]; rfl) (W := 0) (Nat.le_of_eq rfl) (hb hby at_117) (by decide) (by decide) (by decide) (by decide) rfl ?_
      rintro T42 h42 _ L42 X42 e42 ⟨rfl, M42, K42⟩
      have N42 := Fr.app N39 M42
      refine go_ifN (q := 123) X42 hx (hb hby at_120) (XT.i0_eq_f (by decide)) rfl ?_
      refine go_aload (q := 125) X42 hx (hb hby at_123) (v := (.ref a17)) rfl rfl rfl ?_
      refine go_iconst (q := 126) X42 hx (hb hby at_125) (v := (3 : Int32)) (by decide) rfl ?_
      refine go_iload (q := 128) X42 hx (hb hby at_126) (v := (1 : Int32)) rfl rfl ?_
      refine go_dload (q := 130) X42 hx (hb hby at_128) (v := (FP.i2d x1)) rfl rfl ?_
      have f43 : Arv Z h42 a17 k17 .double (2 : Int32) [(.double (FP.i2d x0)), (.double (FP.i2d x1))] (.double 0) := (f40.keep K42 nin0)
      have O44 : Old Z n0 h42 := (O41.keep K42 all0)
      refine go_static (q := 133) X42 hx hZ hown (y := (⟨"com/example/causeway/causeway/model/SamplerMostLikelyPinLaw", "ok", "([DIID)Z"⟩ : MethodName)) (w5 hw) (w6 hw) (w7 hw) (w8 hw) (by decide) e42 (b2 l Z a0 hw a17 k17 (2 : Int32) [(.double (FP.i2d x0)), (.double (FP.i2d x1))] (.double 0) (3 : Int32) (1 : Int32) (FP.i2d x1) h42 n0 O44 f43 (by decide)) (argsL := [(.ref a17), (.int (3 : Int32)), (.int (1 : Int32)), (.double (FP.i2d x1))]) (rest := []) rfl (lenOf pd_1 rfl) rfl (by rw [hml]; rfl) (W := 0) (Nat.le_of_eq rfl) (hb hby at_130) (by decide) (by decide) (by decide) (by decide) rfl ?_
      rintro T45 h45 _ L45 X45 e45 ⟨rfl, M45, K45⟩
      have N45 := Fr.app N42 M45
      refine go_ifN (q := 136) X45 hx (hb hby at_133) (XT.i0_eq_f (by decide)) rfl ?_
      refine go_iconst (q := 137) X45 hx (hb hby at_136) (v := (1 : Int32)) (by decide) rfl ?_
      refine go_goto (q := 141) X45 hx (hb hby at_137) (by decide) (by decide) ?_
      refine go_retI X45 hx hret hlk e45 (hb hby at_141) (by simp) (by decide) (by decide) (by decide) ?_
      exact ⟨rfl, N45, (((((((((Keep.refl h0 []).ext E17).wr W18 (Or.inr sn17)).wr W19 (Or.inr sn17)).trans K21 all0).trans K36 all0).trans K39 all0).trans K42 all0).trans K45 all0)⟩
  · rw [c9]
    refine go_iload (q := 9) X0 hx (hb hby at_7) (v := (3 : Int32)) rfl rfl ?_
    refine go_newP (q := 11) (ty := .double) (cap := 3) (vs := [(.double 0), (.double 0), (.double 0)]) (dv := (.double 0)) X0 hx hZ rfl (w0 hw) e0 (hb hby at_9) (by decide) (by decide) (by decide) (by decide) (by decide) rfl rfl rfl ?_
    intro T46 h46 a46 k46 g46 X46 e46 E46 A46
    have fr46 : n0 ≤ a46 := own_ge O0 g46
    have sn46 : h0.size ≤ a46 := g46 ▸ (Nat.le_refl _)
    refine go_astore (q := 13) X46 hx (hb hby at_11) rfl (l' := #[.val (.int p0), .val (.int x0), .val (.int x1), .val (.int x2), .val (.int x3), .val (.int (3 : Int32)), .val (.ref a46), .unset, .unset, .unset]) rfl rfl ?_
    refine go_aload (q := 15) X46 hx (hb hby at_13) (v := (.ref a46)) rfl rfl rfl ?_
    refine go_iconst (q := 16) X46 hx (hb hby at_15) (v := (0 : Int32)) (by decide) rfl ?_
    refine go_iload_n (q := 17) X46 hx (hb hby at_16) (v := x0) rfl rfl ?_
    refine go_i2d (q := 18) X46 hx (hb hby at_17)  rfl ?_
    refine go_dastore (q := 19) (j := (0 : Int32)) (i := 0) (vs' := [(.double (FP.i2d x0)), (.double 0), (.double 0)]) X46 hx hZ e46 A46 (by decide) (by decide) (show (0 : Nat) < 3 by decide) rfl (hb hby at_18) rfl ?_
    intro T47 h47 X47 e47 W47 A47
    have N47 := Fr.snoc X47 N0 fr46
    refine go_iload (q := 21) X47 hx (hb hby at_19) (v := (3 : Int32)) rfl rfl ?_
    refine go_iconst (q := 22) X47 hx (hb hby at_21) (v := (1 : Int32)) (by decide) rfl ?_
    refine go_icmpN (q := 25) X47 hx (hb hby at_22) (XT.ii_le_f (by decide)) rfl ?_
    refine go_aload (q := 27) X47 hx (hb hby at_25) (v := (.ref a46)) rfl rfl rfl ?_
    refine go_iconst (q := 28) X47 hx (hb hby at_27) (v := (1 : Int32)) (by decide) rfl ?_
    refine go_iload_n (q := 29) X47 hx (hb hby at_28) (v := x1) rfl rfl ?_
    refine go_i2d (q := 30) X47 hx (hb hby at_29)  rfl ?_
    refine go_dastore (q := 31) (j := (1 : Int32)) (i := 1) (vs' := [(.double (FP.i2d x0)), (.double (FP.i2d x1)), (.double 0)]) X47 hx hZ e47 A47 (by decide) (by decide) (show (1 : Nat) < 3 by decide) rfl (hb hby at_30) rfl ?_
    intro T48 h48 X48 e48 W48 A48
    have N48 := Fr.snoc X48 N47 fr46
    refine go_iload (q := 33) X48 hx (hb hby at_31) (v := (3 : Int32)) rfl rfl ?_
    refine go_iconst (q := 34) X48 hx (hb hby at_33) (v := (2 : Int32)) (by decide) rfl ?_
    refine go_icmpN (q := 37) X48 hx (hb hby at_34) (XT.ii_le_f (by decide)) rfl ?_
    refine go_aload (q := 39) X48 hx (hb hby at_37) (v := (.ref a46)) rfl rfl rfl ?_
    refine go_iconst (q := 40) X48 hx (hb hby at_39) (v := (2 : Int32)) (by decide) rfl ?_
    refine go_iload_n (q := 41) X48 hx (hb hby at_40) (v := x2) rfl rfl ?_
    refine go_i2d (q := 42) X48 hx (hb hby at_41)  rfl ?_
    refine go_dastore (q := 43) (j := (2 : Int32)) (i := 2) (vs' := [(.double (FP.i2d x0)), (.double (FP.i2d x1)), (.double (FP.i2d x2))]) X48 hx hZ e48 A48 (by decide) (by decide) (show (2 : Nat) < 3 by decide) rfl (hb hby at_42) rfl ?_
    intro T49 h49 X49 e49 W49 A49
    have N49 := Fr.snoc X49 N48 fr46
    refine go_iload (q := 45) X49 hx (hb hby at_43) (v := (3 : Int32)) rfl rfl ?_
    refine go_iconst (q := 46) X49 hx (hb hby at_45) (v := (3 : Int32)) (by decide) rfl ?_
    refine go_icmpY (q := 56) X49 hx (hb hby at_46) (XT.ii_le_t (by decide)) (by decide) (by decide) ?_
    refine go_aload (q := 58) X49 hx (hb hby at_56) (v := (.ref a46)) rfl rfl rfl ?_
    have O50 : Old Z n0 h49 := ((((O0.ext E46).wr W47 fr46).wr W48 fr46).wr W49 fr46)
    refine go_static (q := 61) X49 hx hZ hown (y := (⟨"com/example/causeway/causeway/model/Sampler", "mostLikely", "([D)I"⟩ : MethodName)) (w1 hw) (w2 hw) (w3 hw) (w4 hw) (by decide) e49 (b1_2 l Z a0 hw a46 k46 (.double 0) x0 x1 x2 h49 n0 O50 A49) (argsL := [(.ref a46)]) (rest := []) rfl (lenOf pd_0 rfl) rfl (by rw [hml]; rfl) (W := 0) (Nat.le_of_eq rfl) (hb hby at_58) (by decide) (by decide) (by decide) (by decide) rfl ?_
    rintro T51 h51 _ L51 X51 e51 ⟨r_51, rfl, M51, K51, p51_0⟩
    have N51 := Fr.app N49 M51
    rcases p51_0 with ⟨rfl, z1, z2⟩ | ⟨rfl, z0, z2⟩ | ⟨rfl, z0, z1⟩
    · refine go_istore (q := 63) X51 hx (hb hby at_61) (l' := #[.val (.int p0), .val (.int x0), .val (.int x1), .val (.int x2), .val (.int x3), .val (.int (3 : Int32)), .val (.ref a46), .val (.int (0 : Int32)), .unset, .unset]) rfl rfl ?_
      refine go_iload (q := 65) X51 hx (hb hby at_63) (v := (0 : Int32)) rfl rfl ?_
      refine go_ifN (q := 68) X51 hx (hb hby at_65) (XT.i0_lt_f (by decide)) rfl ?_
      refine go_iload (q := 70) X51 hx (hb hby at_68) (v := (0 : Int32)) rfl rfl ?_
      refine go_iload (q := 72) X51 hx (hb hby at_70) (v := (3 : Int32)) rfl rfl ?_
      refine go_icmpY (q := 77) X51 hx (hb hby at_72) (XT.ii_lt_t (by decide)) (by decide) (by decide) ?_
      refine go_aload (q := 79) X51 hx (hb hby at_77) (v := (.ref a46)) rfl rfl rfl ?_
      refine go_iload (q := 81) X51 hx (hb hby at_79) (v := (0 : Int32)) rfl rfl ?_
      have f52 : Arv Z h51 a46 k46 .double (3 : Int32) [(.double (FP.i2d x0)), (.double (FP.i2d x1)), (.double (FP.i2d x2))] (.double 0) := (A49.keep K51 nin0)
      refine go_daload (q := 82) (j := (0 : Int32)) (v := (.double (FP.i2d x0))) X51 hx hZ e51 f52 (by decide) rfl (hb hby at_81) rfl ?_
      refine go_dstore (q := 84) X51 hx (hb hby at_82) (l' := #[.val (.int p0), .val (.int x0), .val (.int x1), .val (.int x2), .val (.int x3), .val (.int (3 : Int32)), .val (.ref a46), .val (.int (0 : Int32)), .val (.double (FP.i2d x0)), .second]) rfl rfl ?_
      refine go_aload (q := 86) X51 hx (hb hby at_84) (v := (.ref a46)) rfl rfl rfl ?_
      refine go_iconst (q := 87) X51 hx (hb hby at_86) (v := (0 : Int32)) (by decide) rfl ?_
      refine go_iload (q := 89) X51 hx (hb hby at_87) (v := (0 : Int32)) rfl rfl ?_
      refine go_dload (q := 91) X51 hx (hb hby at_89) (v := (FP.i2d x0)) rfl rfl ?_
      have O53 : Old Z n0 h51 := (O50.keep K51 all0)
      refine go_static (q := 94) X51 hx hZ hown (y := (⟨"com/example/causeway/causeway/model/SamplerMostLikelyPinLaw", "ok", "([DIID)Z"⟩ : MethodName)) (w5 hw) (w6 hw) (w7 hw) (w8 hw) (by decide) e51 (b2_1 l Z a0 hw a46 k46 (3 : Int32) [(.double (FP.i2d x0)), (.double (FP.i2d x1)), (.double (FP.i2d x2))] (.double 0) (0 : Int32) (0 : Int32) x0 x0 h51 n0 O53 f52 (by decide) rfl (by decide) (own_irr _) (by decide)) (argsL := [(.ref a46), (.int (0 : Int32)), (.int (0 : Int32)), (.double (FP.i2d x0))]) (rest := []) rfl (lenOf pd_1 rfl) rfl (by rw [hml]; rfl) (W := 0) (Nat.le_of_eq rfl) (hb hby at_91) (by decide) (by decide) (by decide) (by decide) rfl ?_
      rintro T54 h54 _ L54 X54 e54 ⟨rfl, M54, K54⟩
      have N54 := Fr.app N51 M54
      refine go_ifN (q := 97) X54 hx (hb hby at_94) (XT.i0_eq_f (by decide)) rfl ?_
      refine go_aload (q := 99) X54 hx (hb hby at_97) (v := (.ref a46)) rfl rfl rfl ?_
      refine go_iconst (q := 100) X54 hx (hb hby at_99) (v := (1 : Int32)) (by decide) rfl ?_
      refine go_iload (q := 102) X54 hx (hb hby at_100) (v := (0 : Int32)) rfl rfl ?_
      refine go_dload (q := 104) X54 hx (hb hby at_102) (v := (FP.i2d x0)) rfl rfl ?_
      have f55 : Arv Z h54 a46 k46 .double (3 : Int32) [(.double (FP.i2d x0)), (.double (FP.i2d x1)), (.double (FP.i2d x2))] (.double 0) := (f52.keep K54 nin0)
      have O56 : Old Z n0 h54 := (O53.keep K54 all0)
      refine go_static (q := 107) X54 hx hZ hown (y := (⟨"com/example/causeway/causeway/model/SamplerMostLikelyPinLaw", "ok", "([DIID)Z"⟩ : MethodName)) (w5 hw) (w6 hw) (w7 hw) (w8 hw) (by decide) e54 (b2_1 l Z a0 hw a46 k46 (3 : Int32) [(.double (FP.i2d x0)), (.double (FP.i2d x1)), (.double (FP.i2d x2))] (.double 0) (1 : Int32) (0 : Int32) x1 x0 h54 n0 O56 f55 (by decide) rfl (by decide) z1 (by decide)) (argsL := [(.ref a46), (.int (1 : Int32)), (.int (0 : Int32)), (.double (FP.i2d x0))]) (rest := []) rfl (lenOf pd_1 rfl) rfl (by rw [hml]; rfl) (W := 0) (Nat.le_of_eq rfl) (hb hby at_104) (by decide) (by decide) (by decide) (by decide) rfl ?_
      rintro T57 h57 _ L57 X57 e57 ⟨rfl, M57, K57⟩
      have N57 := Fr.app N54 M57
      refine go_ifN (q := 110) X57 hx (hb hby at_107) (XT.i0_eq_f (by decide)) rfl ?_
      refine go_aload (q := 112) X57 hx (hb hby at_110) (v := (.ref a46)) rfl rfl rfl ?_
      refine go_iconst (q := 113) X57 hx (hb hby at_112) (v := (2 : Int32)) (by decide) rfl ?_
      refine go_iload (q := 115) X57 hx (hb hby at_113) (v := (0 : Int32)) rfl rfl ?_
      refine go_dload (q := 117) X57 hx (hb hby at_115) (v := (FP.i2d x0)) rfl rfl ?_
      have f58 : Arv Z h57 a46 k46 .double (3 : Int32) [(.double (FP.i2d x0)), (.double (FP.i2d x1)), (.double (FP.i2d x2))] (.double 0) := (f55.keep K57 nin0)
      have O59 : Old Z n0 h57 := (O56.keep K57 all0)
      refine go_static (q := 120) X57 hx hZ hown (y := (⟨"com/example/causeway/causeway/model/SamplerMostLikelyPinLaw", "ok", "([DIID)Z"⟩ : MethodName)) (w5 hw) (w6 hw) (w7 hw) (w8 hw) (by decide) e57 (b2_1 l Z a0 hw a46 k46 (3 : Int32) [(.double (FP.i2d x0)), (.double (FP.i2d x1)), (.double (FP.i2d x2))] (.double 0) (2 : Int32) (0 : Int32) x2 x0 h57 n0 O59 f58 (by decide) rfl (by decide) z2 (by decide)) (argsL := [(.ref a46), (.int (2 : Int32)), (.int (0 : Int32)), (.double (FP.i2d x0))]) (rest := []) rfl (lenOf pd_1 rfl) rfl (by rw [hml]; rfl) (W := 0) (Nat.le_of_eq rfl) (hb hby at_117) (by decide) (by decide) (by decide) (by decide) rfl ?_
      rintro T60 h60 _ L60 X60 e60 ⟨rfl, M60, K60⟩
      have N60 := Fr.app N57 M60
      refine go_ifN (q := 123) X60 hx (hb hby at_120) (XT.i0_eq_f (by decide)) rfl ?_
      refine go_aload (q := 125) X60 hx (hb hby at_123) (v := (.ref a46)) rfl rfl rfl ?_
      refine go_iconst (q := 126) X60 hx (hb hby at_125) (v := (3 : Int32)) (by decide) rfl ?_
      refine go_iload (q := 128) X60 hx (hb hby at_126) (v := (0 : Int32)) rfl rfl ?_
      refine go_dload (q := 130) X60 hx (hb hby at_128) (v := (FP.i2d x0)) rfl rfl ?_
      have f61 : Arv Z h60 a46 k46 .double (3 : Int32) [(.double (FP.i2d x0)), (.double (FP.i2d x1)), (.double (FP.i2d x2))] (.double 0) := (f58.keep K60 nin0)
      have O62 : Old Z n0 h60 := (O59.keep K60 all0)
      refine go_static (q := 133) X60 hx hZ hown (y := (⟨"com/example/causeway/causeway/model/SamplerMostLikelyPinLaw", "ok", "([DIID)Z"⟩ : MethodName)) (w5 hw) (w6 hw) (w7 hw) (w8 hw) (by decide) e60 (b2 l Z a0 hw a46 k46 (3 : Int32) [(.double (FP.i2d x0)), (.double (FP.i2d x1)), (.double (FP.i2d x2))] (.double 0) (3 : Int32) (0 : Int32) (FP.i2d x0) h60 n0 O62 f61 (by decide)) (argsL := [(.ref a46), (.int (3 : Int32)), (.int (0 : Int32)), (.double (FP.i2d x0))]) (rest := []) rfl (lenOf pd_1 rfl) rfl (by rw [hml]; rfl) (W := 0) (Nat.le_of_eq rfl) (hb hby at_130) (by decide) (by decide) (by decide) (by decide) rfl ?_
      rintro T63 h63 _ L63 X63 e63 ⟨rfl, M63, K63⟩
      have N63 := Fr.app N60 M63
      refine go_ifN (q := 136) X63 hx (hb hby at_133) (XT.i0_eq_f (by decide)) rfl ?_
      refine go_iconst (q := 137) X63 hx (hb hby at_136) (v := (1 : Int32)) (by decide) rfl ?_
      refine go_goto (q := 141) X63 hx (hb hby at_137) (by decide) (by decide) ?_
      refine go_retI X63 hx hret hlk e63 (hb hby at_141) (by simp) (by decide) (by decide) (by decide) ?_
      exact ⟨rfl, N63, ((((((((((Keep.refl h0 []).ext E46).wr W47 (Or.inr sn46)).wr W48 (Or.inr sn46)).wr W49 (Or.inr sn46)).trans K51 all0).trans K54 all0).trans K57 all0).trans K60 all0).trans K63 all0)⟩
    · refine go_istore (q := 63) X51 hx (hb hby at_61) (l' := #[.val (.int p0), .val (.int x0), .val (.int x1), .val (.int x2), .val (.int x3), .val (.int (3 : Int32)), .val (.ref a46), .val (.int (1 : Int32)), .unset, .unset]) rfl rfl ?_
      refine go_iload (q := 65) X51 hx (hb hby at_63) (v := (1 : Int32)) rfl rfl ?_
      refine go_ifN (q := 68) X51 hx (hb hby at_65) (XT.i0_lt_f (by decide)) rfl ?_
      refine go_iload (q := 70) X51 hx (hb hby at_68) (v := (1 : Int32)) rfl rfl ?_
      refine go_iload (q := 72) X51 hx (hb hby at_70) (v := (3 : Int32)) rfl rfl ?_
      refine go_icmpY (q := 77) X51 hx (hb hby at_72) (XT.ii_lt_t (by decide)) (by decide) (by decide) ?_
      refine go_aload (q := 79) X51 hx (hb hby at_77) (v := (.ref a46)) rfl rfl rfl ?_
      refine go_iload (q := 81) X51 hx (hb hby at_79) (v := (1 : Int32)) rfl rfl ?_
      have f64 : Arv Z h51 a46 k46 .double (3 : Int32) [(.double (FP.i2d x0)), (.double (FP.i2d x1)), (.double (FP.i2d x2))] (.double 0) := (A49.keep K51 nin0)
      refine go_daload (q := 82) (j := (1 : Int32)) (v := (.double (FP.i2d x1))) X51 hx hZ e51 f64 (by decide) rfl (hb hby at_81) rfl ?_
      refine go_dstore (q := 84) X51 hx (hb hby at_82) (l' := #[.val (.int p0), .val (.int x0), .val (.int x1), .val (.int x2), .val (.int x3), .val (.int (3 : Int32)), .val (.ref a46), .val (.int (1 : Int32)), .val (.double (FP.i2d x1)), .second]) rfl rfl ?_
      refine go_aload (q := 86) X51 hx (hb hby at_84) (v := (.ref a46)) rfl rfl rfl ?_
      refine go_iconst (q := 87) X51 hx (hb hby at_86) (v := (0 : Int32)) (by decide) rfl ?_
      refine go_iload (q := 89) X51 hx (hb hby at_87) (v := (1 : Int32)) rfl rfl ?_
      refine go_dload (q := 91) X51 hx (hb hby at_89) (v := (FP.i2d x1)) rfl rfl ?_
      have O65 : Old Z n0 h51 := (O50.keep K51 all0)
      refine go_static (q := 94) X51 hx hZ hown (y := (⟨"com/example/causeway/causeway/model/SamplerMostLikelyPinLaw", "ok", "([DIID)Z"⟩ : MethodName)) (w5 hw) (w6 hw) (w7 hw) (w8 hw) (by decide) e51 (b2_2 l Z a0 hw a46 k46 (3 : Int32) [(.double (FP.i2d x0)), (.double (FP.i2d x1)), (.double (FP.i2d x2))] (.double 0) (0 : Int32) (1 : Int32) x0 x1 h51 n0 O65 f64 (by decide) rfl (by decide) (own_asym z0) (by decide) z0) (argsL := [(.ref a46), (.int (0 : Int32)), (.int (1 : Int32)), (.double (FP.i2d x1))]) (rest := []) rfl (lenOf pd_1 rfl) rfl (by rw [hml]; rfl) (W := 0) (Nat.le_of_eq rfl) (hb hby at_91) (by decide) (by decide) (by decide) (by decide) rfl ?_
      rintro T66 h66 _ L66 X66 e66 ⟨rfl, M66, K66⟩
      have N66 := Fr.app N51 M66
      refine go_ifN (q := 97) X66 hx (hb hby at_94) (XT.i0_eq_f (by decide)) rfl ?_
      refine go_aload (q := 99) X66 hx (hb hby at_97) (v := (.ref a46)) rfl rfl rfl ?_
      refine go_iconst (q := 100) X66 hx (hb hby at_99) (v := (1 : Int32)) (by decide) rfl ?_
      refine go_iload (q := 102) X66 hx (hb hby at_100) (v := (1 : Int32)) rfl rfl ?_
      refine go_dload (q := 104) X66 hx (hb hby at_102) (v := (FP.i2d x1)) rfl rfl ?_
      have f67 : Arv Z h66 a46 k46 .double (3 : Int32) [(.double (FP.i2d x0)), (.double (FP.i2d x1)), (.double (FP.i2d x2))] (.double 0) := (f64.keep K66 nin0)
      have O68 : Old Z n0 h66 := (O65.keep K66 all0)
      refine go_static (q := 107) X66 hx hZ hown (y := (⟨"com/example/causeway/causeway/model/SamplerMostLikelyPinLaw", "ok", "([DIID)Z"⟩ : MethodName)) (w5 hw) (w6 hw) (w7 hw) (w8 hw) (by decide) e66 (b2_1 l Z a0 hw a46 k46 (3 : Int32) [(.double (FP.i2d x0)), (.double (FP.i2d x1)), (.double (FP.i2d x2))] (.double 0) (1 : Int32) (1 : Int32) x1 x1 h66 n0 O68 f67 (by decide) rfl (by decide) (own_irr _) (by decide)) (argsL := [(.ref a46), (.int (1 : Int32)), (.int (1 : Int32)), (.double (FP.i2d x1))]) (rest := []) rfl (lenOf pd_1 rfl) rfl (by rw [hml]; rfl) (W := 0) (Nat.le_of_eq rfl) (hb hby at_104) (by decide) (by decide) (by decide) (by decide) rfl ?_
      rintro T69 h69 _ L69 X69 e69 ⟨rfl, M69, K69⟩
      have N69 := Fr.app N66 M69
      refine go_ifN (q := 110) X69 hx (hb hby at_107) (XT.i0_eq_f (by decide)) rfl ?_
      refine go_aload (q := 112) X69 hx (hb hby at_110) (v := (.ref a46)) rfl rfl rfl ?_
      refine go_iconst (q := 113) X69 hx (hb hby at_112) (v := (2 : Int32)) (by decide) rfl ?_
      refine go_iload (q := 115) X69 hx (hb hby at_113) (v := (1 : Int32)) rfl rfl ?_
      refine go_dload (q := 117) X69 hx (hb hby at_115) (v := (FP.i2d x1)) rfl rfl ?_
      have f70 : Arv Z h69 a46 k46 .double (3 : Int32) [(.double (FP.i2d x0)), (.double (FP.i2d x1)), (.double (FP.i2d x2))] (.double 0) := (f67.keep K69 nin0)
      have O71 : Old Z n0 h69 := (O68.keep K69 all0)
      refine go_static (q := 120) X69 hx hZ hown (y := (⟨"com/example/causeway/causeway/model/SamplerMostLikelyPinLaw", "ok", "([DIID)Z"⟩ : MethodName)) (w5 hw) (w6 hw) (w7 hw) (w8 hw) (by decide) e69 (b2_1 l Z a0 hw a46 k46 (3 : Int32) [(.double (FP.i2d x0)), (.double (FP.i2d x1)), (.double (FP.i2d x2))] (.double 0) (2 : Int32) (1 : Int32) x2 x1 h69 n0 O71 f70 (by decide) rfl (by decide) z2 (by decide)) (argsL := [(.ref a46), (.int (2 : Int32)), (.int (1 : Int32)), (.double (FP.i2d x1))]) (rest := []) rfl (lenOf pd_1 rfl) rfl (by rw [hml]; rfl) (W := 0) (Nat.le_of_eq rfl) (hb hby at_117) (by decide) (by decide) (by decide) (by decide) rfl ?_
      rintro T72 h72 _ L72 X72 e72 ⟨rfl, M72, K72⟩
      have N72 := Fr.app N69 M72
      refine go_ifN (q := 123) X72 hx (hb hby at_120) (XT.i0_eq_f (by decide)) rfl ?_
      refine go_aload (q := 125) X72 hx (hb hby at_123) (v := (.ref a46)) rfl rfl rfl ?_
      refine go_iconst (q := 126) X72 hx (hb hby at_125) (v := (3 : Int32)) (by decide) rfl ?_
      refine go_iload (q := 128) X72 hx (hb hby at_126) (v := (1 : Int32)) rfl rfl ?_
      refine go_dload (q := 130) X72 hx (hb hby at_128) (v := (FP.i2d x1)) rfl rfl ?_
      have f73 : Arv Z h72 a46 k46 .double (3 : Int32) [(.double (FP.i2d x0)), (.double (FP.i2d x1)), (.double (FP.i2d x2))] (.double 0) := (f70.keep K72 nin0)
      have O74 : Old Z n0 h72 := (O71.keep K72 all0)
      refine go_static (q := 133) X72 hx hZ hown (y := (⟨"com/example/causeway/causeway/model/SamplerMostLikelyPinLaw", "ok", "([DIID)Z"⟩ : MethodName)) (w5 hw) (w6 hw) (w7 hw) (w8 hw) (by decide) e72 (b2 l Z a0 hw a46 k46 (3 : Int32) [(.double (FP.i2d x0)), (.double (FP.i2d x1)), (.double (FP.i2d x2))] (.double 0) (3 : Int32) (1 : Int32) (FP.i2d x1) h72 n0 O74 f73 (by decide)) (argsL := [(.ref a46), (.int (3 : Int32)), (.int (1 : Int32)), (.double (FP.i2d x1))]) (rest := []) rfl (lenOf pd_1 rfl) rfl (by rw [hml]; rfl) (W := 0) (Nat.le_of_eq rfl) (hb hby at_130) (by decide) (by decide) (by decide) (by decide) rfl ?_
      rintro T75 h75 _ L75 X75 e75 ⟨rfl, M75, K75⟩
      have N75 := Fr.app N72 M75
      refine go_ifN (q := 136) X75 hx (hb hby at_133) (XT.i0_eq_f (by decide)) rfl ?_
      refine go_iconst (q := 137) X75 hx (hb hby at_136) (v := (1 : Int32)) (by decide) rfl ?_
      refine go_goto (q := 141) X75 hx (hb hby at_137) (by decide) (by decide) ?_
      refine go_retI X75 hx hret hlk e75 (hb hby at_141) (by simp) (by decide) (by decide) (by decide) ?_
      exact ⟨rfl, N75, ((((((((((Keep.refl h0 []).ext E46).wr W47 (Or.inr sn46)).wr W48 (Or.inr sn46)).wr W49 (Or.inr sn46)).trans K51 all0).trans K66 all0).trans K69 all0).trans K72 all0).trans K75 all0)⟩
    · refine go_istore (q := 63) X51 hx (hb hby at_61) (l' := #[.val (.int p0), .val (.int x0), .val (.int x1), .val (.int x2), .val (.int x3), .val (.int (3 : Int32)), .val (.ref a46), .val (.int (2 : Int32)), .unset, .unset]) rfl rfl ?_
      refine go_iload (q := 65) X51 hx (hb hby at_63) (v := (2 : Int32)) rfl rfl ?_
      refine go_ifN (q := 68) X51 hx (hb hby at_65) (XT.i0_lt_f (by decide)) rfl ?_
      refine go_iload (q := 70) X51 hx (hb hby at_68) (v := (2 : Int32)) rfl rfl ?_
      refine go_iload (q := 72) X51 hx (hb hby at_70) (v := (3 : Int32)) rfl rfl ?_
      refine go_icmpY (q := 77) X51 hx (hb hby at_72) (XT.ii_lt_t (by decide)) (by decide) (by decide) ?_
      refine go_aload (q := 79) X51 hx (hb hby at_77) (v := (.ref a46)) rfl rfl rfl ?_
      refine go_iload (q := 81) X51 hx (hb hby at_79) (v := (2 : Int32)) rfl rfl ?_
      have f76 : Arv Z h51 a46 k46 .double (3 : Int32) [(.double (FP.i2d x0)), (.double (FP.i2d x1)), (.double (FP.i2d x2))] (.double 0) := (A49.keep K51 nin0)
      refine go_daload (q := 82) (j := (2 : Int32)) (v := (.double (FP.i2d x2))) X51 hx hZ e51 f76 (by decide) rfl (hb hby at_81) rfl ?_
      refine go_dstore (q := 84) X51 hx (hb hby at_82) (l' := #[.val (.int p0), .val (.int x0), .val (.int x1), .val (.int x2), .val (.int x3), .val (.int (3 : Int32)), .val (.ref a46), .val (.int (2 : Int32)), .val (.double (FP.i2d x2)), .second]) rfl rfl ?_
      refine go_aload (q := 86) X51 hx (hb hby at_84) (v := (.ref a46)) rfl rfl rfl ?_
      refine go_iconst (q := 87) X51 hx (hb hby at_86) (v := (0 : Int32)) (by decide) rfl ?_
      refine go_iload (q := 89) X51 hx (hb hby at_87) (v := (2 : Int32)) rfl rfl ?_
      refine go_dload (q := 91) X51 hx (hb hby at_89) (v := (FP.i2d x2)) rfl rfl ?_
      have O77 : Old Z n0 h51 := (O50.keep K51 all0)
      refine go_static (q := 94) X51 hx hZ hown (y := (⟨"com/example/causeway/causeway/model/SamplerMostLikelyPinLaw", "ok", "([DIID)Z"⟩ : MethodName)) (w5 hw) (w6 hw) (w7 hw) (w8 hw) (by decide) e51 (b2_2 l Z a0 hw a46 k46 (3 : Int32) [(.double (FP.i2d x0)), (.double (FP.i2d x1)), (.double (FP.i2d x2))] (.double 0) (0 : Int32) (2 : Int32) x0 x2 h51 n0 O77 f76 (by decide) rfl (by decide) (own_asym z0) (by decide) z0) (argsL := [(.ref a46), (.int (0 : Int32)), (.int (2 : Int32)), (.double (FP.i2d x2))]) (rest := []) rfl (lenOf pd_1 rfl) rfl (by rw [hml]; rfl) (W := 0) (Nat.le_of_eq rfl) (hb hby at_91) (by decide) (by decide) (by decide) (by decide) rfl ?_
      rintro T78 h78 _ L78 X78 e78 ⟨rfl, M78, K78⟩
      have N78 := Fr.app N51 M78
      refine go_ifN (q := 97) X78 hx (hb hby at_94) (XT.i0_eq_f (by decide)) rfl ?_
      refine go_aload (q := 99) X78 hx (hb hby at_97) (v := (.ref a46)) rfl rfl rfl ?_
      refine go_iconst (q := 100) X78 hx (hb hby at_99) (v := (1 : Int32)) (by decide) rfl ?_
      refine go_iload (q := 102) X78 hx (hb hby at_100) (v := (2 : Int32)) rfl rfl ?_
      refine go_dload (q := 104) X78 hx (hb hby at_102) (v := (FP.i2d x2)) rfl rfl ?_
      have f79 : Arv Z h78 a46 k46 .double (3 : Int32) [(.double (FP.i2d x0)), (.double (FP.i2d x1)), (.double (FP.i2d x2))] (.double 0) := (f76.keep K78 nin0)
      have O80 : Old Z n0 h78 := (O77.keep K78 all0)
      refine go_static (q := 107) X78 hx hZ hown (y := (⟨"com/example/causeway/causeway/model/SamplerMostLikelyPinLaw", "ok", "([DIID)Z"⟩ : MethodName)) (w5 hw) (w6 hw) (w7 hw) (w8 hw) (by decide) e78 (b2_2 l Z a0 hw a46 k46 (3 : Int32) [(.double (FP.i2d x0)), (.double (FP.i2d x1)), (.double (FP.i2d x2))] (.double 0) (1 : Int32) (2 : Int32) x1 x2 h78 n0 O80 f79 (by decide) rfl (by decide) (own_asym z1) (by decide) z1) (argsL := [(.ref a46), (.int (1 : Int32)), (.int (2 : Int32)), (.double (FP.i2d x2))]) (rest := []) rfl (lenOf pd_1 rfl) rfl (by rw [hml]; rfl) (W := 0) (Nat.le_of_eq rfl) (hb hby at_104) (by decide) (by decide) (by decide) (by decide) rfl ?_
      rintro T81 h81 _ L81 X81 e81 ⟨rfl, M81, K81⟩
      have N81 := Fr.app N78 M81
      refine go_ifN (q := 110) X81 hx (hb hby at_107) (XT.i0_eq_f (by decide)) rfl ?_
      refine go_aload (q := 112) X81 hx (hb hby at_110) (v := (.ref a46)) rfl rfl rfl ?_
      refine go_iconst (q := 113) X81 hx (hb hby at_112) (v := (2 : Int32)) (by decide) rfl ?_
      refine go_iload (q := 115) X81 hx (hb hby at_113) (v := (2 : Int32)) rfl rfl ?_
      refine go_dload (q := 117) X81 hx (hb hby at_115) (v := (FP.i2d x2)) rfl rfl ?_
      have f82 : Arv Z h81 a46 k46 .double (3 : Int32) [(.double (FP.i2d x0)), (.double (FP.i2d x1)), (.double (FP.i2d x2))] (.double 0) := (f79.keep K81 nin0)
      have O83 : Old Z n0 h81 := (O80.keep K81 all0)
      refine go_static (q := 120) X81 hx hZ hown (y := (⟨"com/example/causeway/causeway/model/SamplerMostLikelyPinLaw", "ok", "([DIID)Z"⟩ : MethodName)) (w5 hw) (w6 hw) (w7 hw) (w8 hw) (by decide) e81 (b2_1 l Z a0 hw a46 k46 (3 : Int32) [(.double (FP.i2d x0)), (.double (FP.i2d x1)), (.double (FP.i2d x2))] (.double 0) (2 : Int32) (2 : Int32) x2 x2 h81 n0 O83 f82 (by decide) rfl (by decide) (own_irr _) (by decide)) (argsL := [(.ref a46), (.int (2 : Int32)), (.int (2 : Int32)), (.double (FP.i2d x2))]) (rest := []) rfl (lenOf pd_1 rfl) rfl (by rw [hml]; rfl) (W := 0) (Nat.le_of_eq rfl) (hb hby at_117) (by decide) (by decide) (by decide) (by decide) rfl ?_
      rintro T84 h84 _ L84 X84 e84 ⟨rfl, M84, K84⟩
      have N84 := Fr.app N81 M84
      refine go_ifN (q := 123) X84 hx (hb hby at_120) (XT.i0_eq_f (by decide)) rfl ?_
      refine go_aload (q := 125) X84 hx (hb hby at_123) (v := (.ref a46)) rfl rfl rfl ?_
      refine go_iconst (q := 126) X84 hx (hb hby at_125) (v := (3 : Int32)) (by decide) rfl ?_
      refine go_iload (q := 128) X84 hx (hb hby at_126) (v := (2 : Int32)) rfl rfl ?_
      refine go_dload (q := 130) X84 hx (hb hby at_128) (v := (FP.i2d x2)) rfl rfl ?_
      have f85 : Arv Z h84 a46 k46 .double (3 : Int32) [(.double (FP.i2d x0)), (.double (FP.i2d x1)), (.double (FP.i2d x2))] (.double 0) := (f82.keep K84 nin0)
      have O86 : Old Z n0 h84 := (O83.keep K84 all0)
      refine go_static (q := 133) X84 hx hZ hown (y := (⟨"com/example/causeway/causeway/model/SamplerMostLikelyPinLaw", "ok", "([DIID)Z"⟩ : MethodName)) (w5 hw) (w6 hw) (w7 hw) (w8 hw) (by decide) e84 (b2 l Z a0 hw a46 k46 (3 : Int32) [(.double (FP.i2d x0)), (.double (FP.i2d x1)), (.double (FP.i2d x2))] (.double 0) (3 : Int32) (2 : Int32) (FP.i2d x2) h84 n0 O86 f85 (by decide)) (argsL := [(.ref a46), (.int (3 : Int32)), (.int (2 : Int32)), (.double (FP.i2d x2))]) (rest := []) rfl (lenOf pd_1 rfl) rfl (by rw [hml]; rfl) (W := 0) (Nat.le_of_eq rfl) (hb hby at_130) (by decide) (by decide) (by decide) (by decide) rfl ?_
      rintro T87 h87 _ L87 X87 e87 ⟨rfl, M87, K87⟩
      have N87 := Fr.app N84 M87
      refine go_ifN (q := 136) X87 hx (hb hby at_133) (XT.i0_eq_f (by decide)) rfl ?_
      refine go_iconst (q := 137) X87 hx (hb hby at_136) (v := (1 : Int32)) (by decide) rfl ?_
      refine go_goto (q := 141) X87 hx (hb hby at_137) (by decide) (by decide) ?_
      refine go_retI X87 hx hret hlk e87 (hb hby at_141) (by simp) (by decide) (by decide) (by decide) ?_
      exact ⟨rfl, N87, ((((((((((Keep.refl h0 []).ext E46).wr W47 (Or.inr sn46)).wr W48 (Or.inr sn46)).wr W49 (Or.inr sn46)).trans K51 all0).trans K78 all0).trans K81 all0).trans K84 all0).trans K87 all0)⟩
  · rw [c9]
    refine go_iload (q := 9) X0 hx (hb hby at_7) (v := (4 : Int32)) rfl rfl ?_
    refine go_newP (q := 11) (ty := .double) (cap := 4) (vs := [(.double 0), (.double 0), (.double 0), (.double 0)]) (dv := (.double 0)) X0 hx hZ rfl (w0 hw) e0 (hb hby at_9) (by decide) (by decide) (by decide) (by decide) (by decide) rfl rfl rfl ?_
    intro T88 h88 a88 k88 g88 X88 e88 E88 A88
    have fr88 : n0 ≤ a88 := own_ge O0 g88
    have sn88 : h0.size ≤ a88 := g88 ▸ (Nat.le_refl _)
    refine go_astore (q := 13) X88 hx (hb hby at_11) rfl (l' := #[.val (.int p0), .val (.int x0), .val (.int x1), .val (.int x2), .val (.int x3), .val (.int (4 : Int32)), .val (.ref a88), .unset, .unset, .unset]) rfl rfl ?_
    refine go_aload (q := 15) X88 hx (hb hby at_13) (v := (.ref a88)) rfl rfl rfl ?_
    refine go_iconst (q := 16) X88 hx (hb hby at_15) (v := (0 : Int32)) (by decide) rfl ?_
    refine go_iload_n (q := 17) X88 hx (hb hby at_16) (v := x0) rfl rfl ?_
    refine go_i2d (q := 18) X88 hx (hb hby at_17)  rfl ?_
    refine go_dastore (q := 19) (j := (0 : Int32)) (i := 0) (vs' := [(.double (FP.i2d x0)), (.double 0), (.double 0), (.double 0)]) X88 hx hZ e88 A88 (by decide) (by decide) (show (0 : Nat) < 4 by decide) rfl (hb hby at_18) rfl ?_
    intro T89 h89 X89 e89 W89 A89
    have N89 := Fr.snoc X89 N0 fr88
    refine go_iload (q := 21) X89 hx (hb hby at_19) (v := (4 : Int32)) rfl rfl ?_
    refine go_iconst (q := 22) X89 hx (hb hby at_21) (v := (1 : Int32)) (by decide) rfl ?_
    refine go_icmpN (q := 25) X89 hx (hb hby at_22) (XT.ii_le_f (by decide)) rfl ?_
    refine go_aload (q := 27) X89 hx (hb hby at_25) (v := (.ref a88)) rfl rfl rfl ?_
    refine go_iconst (q := 28) X89 hx (hb hby at_27) (v := (1 : Int32)) (by decide) rfl ?_
    refine go_iload_n (q := 29) X89 hx (hb hby at_28) (v := x1) rfl rfl ?_
    refine go_i2d (q := 30) X89 hx (hb hby at_29)  rfl ?_
    refine go_dastore (q := 31) (j := (1 : Int32)) (i := 1) (vs' := [(.double (FP.i2d x0)), (.double (FP.i2d x1)), (.double 0), (.double 0)]) X89 hx hZ e89 A89 (by decide) (by decide) (show (1 : Nat) < 4 by decide) rfl (hb hby at_30) rfl ?_
    intro T90 h90 X90 e90 W90 A90
    have N90 := Fr.snoc X90 N89 fr88
    refine go_iload (q := 33) X90 hx (hb hby at_31) (v := (4 : Int32)) rfl rfl ?_
    refine go_iconst (q := 34) X90 hx (hb hby at_33) (v := (2 : Int32)) (by decide) rfl ?_
    refine go_icmpN (q := 37) X90 hx (hb hby at_34) (XT.ii_le_f (by decide)) rfl ?_
    refine go_aload (q := 39) X90 hx (hb hby at_37) (v := (.ref a88)) rfl rfl rfl ?_
    refine go_iconst (q := 40) X90 hx (hb hby at_39) (v := (2 : Int32)) (by decide) rfl ?_
    refine go_iload_n (q := 41) X90 hx (hb hby at_40) (v := x2) rfl rfl ?_
    refine go_i2d (q := 42) X90 hx (hb hby at_41)  rfl ?_
    refine go_dastore (q := 43) (j := (2 : Int32)) (i := 2) (vs' := [(.double (FP.i2d x0)), (.double (FP.i2d x1)), (.double (FP.i2d x2)), (.double 0)]) X90 hx hZ e90 A90 (by decide) (by decide) (show (2 : Nat) < 4 by decide) rfl (hb hby at_42) rfl ?_
    intro T91 h91 X91 e91 W91 A91
    have N91 := Fr.snoc X91 N90 fr88
    refine go_iload (q := 45) X91 hx (hb hby at_43) (v := (4 : Int32)) rfl rfl ?_
    refine go_iconst (q := 46) X91 hx (hb hby at_45) (v := (3 : Int32)) (by decide) rfl ?_
    refine go_icmpN (q := 49) X91 hx (hb hby at_46) (XT.ii_le_f (by decide)) rfl ?_
    refine go_aload (q := 51) X91 hx (hb hby at_49) (v := (.ref a88)) rfl rfl rfl ?_
    refine go_iconst (q := 52) X91 hx (hb hby at_51) (v := (3 : Int32)) (by decide) rfl ?_
    refine go_iload (q := 54) X91 hx (hb hby at_52) (v := x3) rfl rfl ?_
    refine go_i2d (q := 55) X91 hx (hb hby at_54)  rfl ?_
    refine go_dastore (q := 56) (j := (3 : Int32)) (i := 3) (vs' := [(.double (FP.i2d x0)), (.double (FP.i2d x1)), (.double (FP.i2d x2)), (.double (FP.i2d x3))]) X91 hx hZ e91 A91 (by decide) (by decide) (show (3 : Nat) < 4 by decide) rfl (hb hby at_55) rfl ?_
    intro T92 h92 X92 e92 W92 A92
    have N92 := Fr.snoc X92 N91 fr88
    refine go_aload (q := 58) X92 hx (hb hby at_56) (v := (.ref a88)) rfl rfl rfl ?_
    have O93 : Old Z n0 h92 := (((((O0.ext E88).wr W89 fr88).wr W90 fr88).wr W91 fr88).wr W92 fr88)
    refine go_static (q := 61) X92 hx hZ hown (y := (⟨"com/example/causeway/causeway/model/Sampler", "mostLikely", "([D)I"⟩ : MethodName)) (w1 hw) (w2 hw) (w3 hw) (w4 hw) (by decide) e92 (b1_3 l Z a0 hw a88 k88 (.double 0) x0 x1 x2 x3 h92 n0 O93 A92) (argsL := [(.ref a88)]) (rest := []) rfl (lenOf pd_0 rfl) rfl (by rw [hml]; rfl) (W := 0) (Nat.le_of_eq rfl) (hb hby at_58) (by decide) (by decide) (by decide) (by decide) rfl ?_
    rintro T94 h94 _ L94 X94 e94 ⟨r_94, rfl, M94, K94, p94_0⟩
    have N94 := Fr.app N92 M94
    rcases p94_0 with ⟨rfl, z1, z2, z3⟩ | ⟨rfl, z0, z2, z3⟩ | ⟨rfl, z0, z1, z3⟩ | ⟨rfl, z0, z1, z2⟩
    · refine go_istore (q := 63) X94 hx (hb hby at_61) (l' := #[.val (.int p0), .val (.int x0), .val (.int x1), .val (.int x2), .val (.int x3), .val (.int (4 : Int32)), .val (.ref a88), .val (.int (0 : Int32)), .unset, .unset]) rfl rfl ?_
      refine go_iload (q := 65) X94 hx (hb hby at_63) (v := (0 : Int32)) rfl rfl ?_
      refine go_ifN (q := 68) X94 hx (hb hby at_65) (XT.i0_lt_f (by decide)) rfl ?_
      refine go_iload (q := 70) X94 hx (hb hby at_68) (v := (0 : Int32)) rfl rfl ?_
      refine go_iload (q := 72) X94 hx (hb hby at_70) (v := (4 : Int32)) rfl rfl ?_
      refine go_icmpY (q := 77) X94 hx (hb hby at_72) (XT.ii_lt_t (by decide)) (by decide) (by decide) ?_
      refine go_aload (q := 79) X94 hx (hb hby at_77) (v := (.ref a88)) rfl rfl rfl ?_
      refine go_iload (q := 81) X94 hx (hb hby at_79) (v := (0 : Int32)) rfl rfl ?_
      have f95 : Arv Z h94 a88 k88 .double (4 : Int32) [(.double (FP.i2d x0)), (.double (FP.i2d x1)), (.double (FP.i2d x2)), (.double (FP.i2d x3))] (.double 0) := (A92.keep K94 nin0)
      refine go_daload (q := 82) (j := (0 : Int32)) (v := (.double (FP.i2d x0))) X94 hx hZ e94 f95 (by decide) rfl (hb hby at_81) rfl ?_
      refine go_dstore (q := 84) X94 hx (hb hby at_82) (l' := #[.val (.int p0), .val (.int x0), .val (.int x1), .val (.int x2), .val (.int x3), .val (.int (4 : Int32)), .val (.ref a88), .val (.int (0 : Int32)), .val (.double (FP.i2d x0)), .second]) rfl rfl ?_
      refine go_aload (q := 86) X94 hx (hb hby at_84) (v := (.ref a88)) rfl rfl rfl ?_
      refine go_iconst (q := 87) X94 hx (hb hby at_86) (v := (0 : Int32)) (by decide) rfl ?_
      refine go_iload (q := 89) X94 hx (hb hby at_87) (v := (0 : Int32)) rfl rfl ?_
      refine go_dload (q := 91) X94 hx (hb hby at_89) (v := (FP.i2d x0)) rfl rfl ?_
      have O96 : Old Z n0 h94 := (O93.keep K94 all0)
      refine go_static (q := 94) X94 hx hZ hown (y := (⟨"com/example/causeway/causeway/model/SamplerMostLikelyPinLaw", "ok", "([DIID)Z"⟩ : MethodName)) (w5 hw) (w6 hw) (w7 hw) (w8 hw) (by decide) e94 (b2_1 l Z a0 hw a88 k88 (4 : Int32) [(.double (FP.i2d x0)), (.double (FP.i2d x1)), (.double (FP.i2d x2)), (.double (FP.i2d x3))] (.double 0) (0 : Int32) (0 : Int32) x0 x0 h94 n0 O96 f95 (by decide) rfl (by decide) (own_irr _) (by decide)) (argsL := [(.ref a88), (.int (0 : Int32)), (.int (0 : Int32)), (.double (FP.i2d x0))]) (rest := []) rfl (lenOf pd_1 rfl) rfl (by rw [hml]; rfl) (W := 0) (Nat.le_of_eq rfl) (hb hby at_91) (by decide) (by decide) (by decide) (by decide) rfl ?_
      rintro T97 h97 _ L97 X97 e97 ⟨rfl, M97, K97⟩
      have N97 := Fr.app N94 M97
      refine go_ifN (q := 97) X97 hx (hb hby at_94) (XT.i0_eq_f (by decide)) rfl ?_
      refine go_aload (q := 99) X97 hx (hb hby at_97) (v := (.ref a88)) rfl rfl rfl ?_
      refine go_iconst (q := 100) X97 hx (hb hby at_99) (v := (1 : Int32)) (by decide) rfl ?_
      refine go_iload (q := 102) X97 hx (hb hby at_100) (v := (0 : Int32)) rfl rfl ?_
      refine go_dload (q := 104) X97 hx (hb hby at_102) (v := (FP.i2d x0)) rfl rfl ?_
      have f98 : Arv Z h97 a88 k88 .double (4 : Int32) [(.double (FP.i2d x0)), (.double (FP.i2d x1)), (.double (FP.i2d x2)), (.double (FP.i2d x3))] (.double 0) := (f95.keep K97 nin0)
      have O99 : Old Z n0 h97 := (O96.keep K97 all0)
      refine go_static (q := 107) X97 hx hZ hown (y := (⟨"com/example/causeway/causeway/model/SamplerMostLikelyPinLaw", "ok", "([DIID)Z"⟩ : MethodName)) (w5 hw) (w6 hw) (w7 hw) (w8 hw) (by decide) e97 (b2_1 l Z a0 hw a88 k88 (4 : Int32) [(.double (FP.i2d x0)), (.double (FP.i2d x1)), (.double (FP.i2d x2)), (.double (FP.i2d x3))] (.double 0) (1 : Int32) (0 : Int32) x1 x0 h97 n0 O99 f98 (by decide) rfl (by decide) z1 (by decide)) (argsL := [(.ref a88), (.int (1 : Int32)), (.int (0 : Int32)), (.double (FP.i2d x0))]) (rest := []) rfl (lenOf pd_1 rfl) rfl (by rw [hml]; rfl) (W := 0) (Nat.le_of_eq rfl) (hb hby at_104) (by decide) (by decide) (by decide) (by decide) rfl ?_
      rintro T100 h100 _ L100 X100 e100 ⟨rfl, M100, K100⟩
      have N100 := Fr.app N97 M100
      refine go_ifN (q := 110) X100 hx (hb hby at_107) (XT.i0_eq_f (by decide)) rfl ?_
      refine go_aload (q := 112) X100 hx (hb hby at_110) (v := (.ref a88)) rfl rfl rfl ?_
      refine go_iconst (q := 113) X100 hx (hb hby at_112) (v := (2 : Int32)) (by decide) rfl ?_
      refine go_iload (q := 115) X100 hx (hb hby at_113) (v := (0 : Int32)) rfl rfl ?_
      refine go_dload (q := 117) X100 hx (hb hby at_115) (v := (FP.i2d x0)) rfl rfl ?_
      have f101 : Arv Z h100 a88 k88 .double (4 : Int32) [(.double (FP.i2d x0)), (.double (FP.i2d x1)), (.double (FP.i2d x2)), (.double (FP.i2d x3))] (.double 0) := (f98.keep K100 nin0)
      have O102 : Old Z n0 h100 := (O99.keep K100 all0)
      refine go_static (q := 120) X100 hx hZ hown (y := (⟨"com/example/causeway/causeway/model/SamplerMostLikelyPinLaw", "ok", "([DIID)Z"⟩ : MethodName)) (w5 hw) (w6 hw) (w7 hw) (w8 hw) (by decide) e100 (b2_1 l Z a0 hw a88 k88 (4 : Int32) [(.double (FP.i2d x0)), (.double (FP.i2d x1)), (.double (FP.i2d x2)), (.double (FP.i2d x3))] (.double 0) (2 : Int32) (0 : Int32) x2 x0 h100 n0 O102 f101 (by decide) rfl (by decide) z2 (by decide)) (argsL := [(.ref a88), (.int (2 : Int32)), (.int (0 : Int32)), (.double (FP.i2d x0))]) (rest := []) rfl (lenOf pd_1 rfl) rfl (by rw [hml]; rfl) (W := 0) (Nat.le_of_eq rfl) (hb hby at_117) (by decide) (by decide) (by decide) (by decide) rfl ?_
      rintro T103 h103 _ L103 X103 e103 ⟨rfl, M103, K103⟩
      have N103 := Fr.app N100 M103
      refine go_ifN (q := 123) X103 hx (hb hby at_120) (XT.i0_eq_f (by decide)) rfl ?_
      refine go_aload (q := 125) X103 hx (hb hby at_123) (v := (.ref a88)) rfl rfl rfl ?_
      refine go_iconst (q := 126) X103 hx (hb hby at_125) (v := (3 : Int32)) (by decide) rfl ?_
      refine go_iload (q := 128) X103 hx (hb hby at_126) (v := (0 : Int32)) rfl rfl ?_
      refine go_dload (q := 130) X103 hx (hb hby at_128) (v := (FP.i2d x0)) rfl rfl ?_
      have f104 : Arv Z h103 a88 k88 .double (4 : Int32) [(.double (FP.i2d x0)), (.double (FP.i2d x1)), (.double (FP.i2d x2)), (.double (FP.i2d x3))] (.double 0) := (f101.keep K103 nin0)
      have O105 : Old Z n0 h103 := (O102.keep K103 all0)
      refine go_static (q := 133) X103 hx hZ hown (y := (⟨"com/example/causeway/causeway/model/SamplerMostLikelyPinLaw", "ok", "([DIID)Z"⟩ : MethodName)) (w5 hw) (w6 hw) (w7 hw) (w8 hw) (by decide) e103 (b2_1 l Z a0 hw a88 k88 (4 : Int32) [(.double (FP.i2d x0)), (.double (FP.i2d x1)), (.double (FP.i2d x2)), (.double (FP.i2d x3))] (.double 0) (3 : Int32) (0 : Int32) x3 x0 h103 n0 O105 f104 (by decide) rfl (by decide) z3 (by decide)) (argsL := [(.ref a88), (.int (3 : Int32)), (.int (0 : Int32)), (.double (FP.i2d x0))]) (rest := []) rfl (lenOf pd_1 rfl) rfl (by rw [hml]; rfl) (W := 0) (Nat.le_of_eq rfl) (hb hby at_130) (by decide) (by decide) (by decide) (by decide) rfl ?_
      rintro T106 h106 _ L106 X106 e106 ⟨rfl, M106, K106⟩
      have N106 := Fr.app N103 M106
      refine go_ifN (q := 136) X106 hx (hb hby at_133) (XT.i0_eq_f (by decide)) rfl ?_
      refine go_iconst (q := 137) X106 hx (hb hby at_136) (v := (1 : Int32)) (by decide) rfl ?_
      refine go_goto (q := 141) X106 hx (hb hby at_137) (by decide) (by decide) ?_
      refine go_retI X106 hx hret hlk e106 (hb hby at_141) (by simp) (by decide) (by decide) (by decide) ?_
      exact ⟨rfl, N106, (((((((((((Keep.refl h0 []).ext E88).wr W89 (Or.inr sn88)).wr W90 (Or.inr sn88)).wr W91 (Or.inr sn88)).wr W92 (Or.inr sn88)).trans K94 all0).trans K97 all0).trans K100 all0).trans K103 all0).trans K106 all0)⟩
    · refine go_istore (q := 63) X94 hx (hb hby at_61) (l' := #[.val (.int p0), .val (.int x0), .val (.int x1), .val (.int x2), .val (.int x3), .val (.int (4 : Int32)), .val (.ref a88), .val (.int (1 : Int32)), .unset, .unset]) rfl rfl ?_
      refine go_iload (q := 65) X94 hx (hb hby at_63) (v := (1 : Int32)) rfl rfl ?_
      refine go_ifN (q := 68) X94 hx (hb hby at_65) (XT.i0_lt_f (by decide)) rfl ?_
      refine go_iload (q := 70) X94 hx (hb hby at_68) (v := (1 : Int32)) rfl rfl ?_
      refine go_iload (q := 72) X94 hx (hb hby at_70) (v := (4 : Int32)) rfl rfl ?_
      refine go_icmpY (q := 77) X94 hx (hb hby at_72) (XT.ii_lt_t (by decide)) (by decide) (by decide) ?_
      refine go_aload (q := 79) X94 hx (hb hby at_77) (v := (.ref a88)) rfl rfl rfl ?_
      refine go_iload (q := 81) X94 hx (hb hby at_79) (v := (1 : Int32)) rfl rfl ?_
      have f107 : Arv Z h94 a88 k88 .double (4 : Int32) [(.double (FP.i2d x0)), (.double (FP.i2d x1)), (.double (FP.i2d x2)), (.double (FP.i2d x3))] (.double 0) := (A92.keep K94 nin0)
      refine go_daload (q := 82) (j := (1 : Int32)) (v := (.double (FP.i2d x1))) X94 hx hZ e94 f107 (by decide) rfl (hb hby at_81) rfl ?_
      refine go_dstore (q := 84) X94 hx (hb hby at_82) (l' := #[.val (.int p0), .val (.int x0), .val (.int x1), .val (.int x2), .val (.int x3), .val (.int (4 : Int32)), .val (.ref a88), .val (.int (1 : Int32)), .val (.double (FP.i2d x1)), .second]) rfl rfl ?_
      refine go_aload (q := 86) X94 hx (hb hby at_84) (v := (.ref a88)) rfl rfl rfl ?_
      refine go_iconst (q := 87) X94 hx (hb hby at_86) (v := (0 : Int32)) (by decide) rfl ?_
      refine go_iload (q := 89) X94 hx (hb hby at_87) (v := (1 : Int32)) rfl rfl ?_
      refine go_dload (q := 91) X94 hx (hb hby at_89) (v := (FP.i2d x1)) rfl rfl ?_
      have O108 : Old Z n0 h94 := (O93.keep K94 all0)
      refine go_static (q := 94) X94 hx hZ hown (y := (⟨"com/example/causeway/causeway/model/SamplerMostLikelyPinLaw", "ok", "([DIID)Z"⟩ : MethodName)) (w5 hw) (w6 hw) (w7 hw) (w8 hw) (by decide) e94 (b2_2 l Z a0 hw a88 k88 (4 : Int32) [(.double (FP.i2d x0)), (.double (FP.i2d x1)), (.double (FP.i2d x2)), (.double (FP.i2d x3))] (.double 0) (0 : Int32) (1 : Int32) x0 x1 h94 n0 O108 f107 (by decide) rfl (by decide) (own_asym z0) (by decide) z0) (argsL := [(.ref a88), (.int (0 : Int32)), (.int (1 : Int32)), (.double (FP.i2d x1))]) (rest := []) rfl (lenOf pd_1 rfl) rfl (by rw [hml]; rfl) (W := 0) (Nat.le_of_eq rfl) (hb hby at_91) (by decide) (by decide) (by decide) (by decide) rfl ?_
      rintro T109 h109 _ L109 X109 e109 ⟨rfl, M109, K109⟩
      have N109 := Fr.app N94 M109
      refine go_ifN (q := 97) X109 hx (hb hby at_94) (XT.i0_eq_f (by decide)) rfl ?_
      refine go_aload (q := 99) X109 hx (hb hby at_97) (v := (.ref a88)) rfl rfl rfl ?_
      refine go_iconst (q := 100) X109 hx (hb hby at_99) (v := (1 : Int32)) (by decide) rfl ?_
      refine go_iload (q := 102) X109 hx (hb hby at_100) (v := (1 : Int32)) rfl rfl ?_
      refine go_dload (q := 104) X109 hx (hb hby at_102) (v := (FP.i2d x1)) rfl rfl ?_
      have f110 : Arv Z h109 a88 k88 .double (4 : Int32) [(.double (FP.i2d x0)), (.double (FP.i2d x1)), (.double (FP.i2d x2)), (.double (FP.i2d x3))] (.double 0) := (f107.keep K109 nin0)
      have O111 : Old Z n0 h109 := (O108.keep K109 all0)
      refine go_static (q := 107) X109 hx hZ hown (y := (⟨"com/example/causeway/causeway/model/SamplerMostLikelyPinLaw", "ok", "([DIID)Z"⟩ : MethodName)) (w5 hw) (w6 hw) (w7 hw) (w8 hw) (by decide) e109 (b2_1 l Z a0 hw a88 k88 (4 : Int32) [(.double (FP.i2d x0)), (.double (FP.i2d x1)), (.double (FP.i2d x2)), (.double (FP.i2d x3))] (.double 0) (1 : Int32) (1 : Int32) x1 x1 h109 n0 O111 f110 (by decide) rfl (by decide) (own_irr _) (by decide)) (argsL := [(.ref a88), (.int (1 : Int32)), (.int (1 : Int32)), (.double (FP.i2d x1))]) (rest := []) rfl (lenOf pd_1 rfl) rfl (by rw [hml]; rfl) (W := 0) (Nat.le_of_eq rfl) (hb hby at_104) (by decide) (by decide) (by decide) (by decide) rfl ?_
      rintro T112 h112 _ L112 X112 e112 ⟨rfl, M112, K112⟩
      have N112 := Fr.app N109 M112
      refine go_ifN (q := 110) X112 hx (hb hby at_107) (XT.i0_eq_f (by decide)) rfl ?_
      refine go_aload (q := 112) X112 hx (hb hby at_110) (v := (.ref a88)) rfl rfl rfl ?_
      refine go_iconst (q := 113) X112 hx (hb hby at_112) (v := (2 : Int32)) (by decide) rfl ?_
      refine go_iload (q := 115) X112 hx (hb hby at_113) (v := (1 : Int32)) rfl rfl ?_
      refine go_dload (q := 117) X112 hx (hb hby at_115) (v := (FP.i2d x1)) rfl rfl ?_
      have f113 : Arv Z h112 a88 k88 .double (4 : Int32) [(.double (FP.i2d x0)), (.double (FP.i2d x1)), (.double (FP.i2d x2)), (.double (FP.i2d x3))] (.double 0) := (f110.keep K112 nin0)
      have O114 : Old Z n0 h112 := (O111.keep K112 all0)
      refine go_static (q := 120) X112 hx hZ hown (y := (⟨"com/example/causeway/causeway/model/SamplerMostLikelyPinLaw", "ok", "([DIID)Z"⟩ : MethodName)) (w5 hw) (w6 hw) (w7 hw) (w8 hw) (by decide) e112 (b2_1 l Z a0 hw a88 k88 (4 : Int32) [(.double (FP.i2d x0)), (.double (FP.i2d x1)), (.double (FP.i2d x2)), (.double (FP.i2d x3))] (.double 0) (2 : Int32) (1 : Int32) x2 x1 h112 n0 O114 f113 (by decide) rfl (by decide) z2 (by decide)) (argsL := [(.ref a88), (.int (2 : Int32)), (.int (1 : Int32)), (.double (FP.i2d x1))]) (rest := []) rfl (lenOf pd_1 rfl) rfl (by rw [hml]; rfl) (W := 0) (Nat.le_of_eq rfl) (hb hby at_117) (by decide) (by decide) (by decide) (by decide) rfl ?_
      rintro T115 h115 _ L115 X115 e115 ⟨rfl, M115, K115⟩
      have N115 := Fr.app N112 M115
      refine go_ifN (q := 123) X115 hx (hb hby at_120) (XT.i0_eq_f (by decide)) rfl ?_
      refine go_aload (q := 125) X115 hx (hb hby at_123) (v := (.ref a88)) rfl rfl rfl ?_
      refine go_iconst (q := 126) X115 hx (hb hby at_125) (v := (3 : Int32)) (by decide) rfl ?_
      refine go_iload (q := 128) X115 hx (hb hby at_126) (v := (1 : Int32)) rfl rfl ?_
      refine go_dload (q := 130) X115 hx (hb hby at_128) (v := (FP.i2d x1)) rfl rfl ?_
      have f116 : Arv Z h115 a88 k88 .double (4 : Int32) [(.double (FP.i2d x0)), (.double (FP.i2d x1)), (.double (FP.i2d x2)), (.double (FP.i2d x3))] (.double 0) := (f113.keep K115 nin0)
      have O117 : Old Z n0 h115 := (O114.keep K115 all0)
      refine go_static (q := 133) X115 hx hZ hown (y := (⟨"com/example/causeway/causeway/model/SamplerMostLikelyPinLaw", "ok", "([DIID)Z"⟩ : MethodName)) (w5 hw) (w6 hw) (w7 hw) (w8 hw) (by decide) e115 (b2_1 l Z a0 hw a88 k88 (4 : Int32) [(.double (FP.i2d x0)), (.double (FP.i2d x1)), (.double (FP.i2d x2)), (.double (FP.i2d x3))] (.double 0) (3 : Int32) (1 : Int32) x3 x1 h115 n0 O117 f116 (by decide) rfl (by decide) z3 (by decide)) (argsL := [(.ref a88), (.int (3 : Int32)), (.int (1 : Int32)), (.double (FP.i2d x1))]) (rest := []) rfl (lenOf pd_1 rfl) rfl (by rw [hml]; rfl) (W := 0) (Nat.le_of_eq rfl) (hb hby at_130) (by decide) (by decide) (by decide) (by decide) rfl ?_
      rintro T118 h118 _ L118 X118 e118 ⟨rfl, M118, K118⟩
      have N118 := Fr.app N115 M118
      refine go_ifN (q := 136) X118 hx (hb hby at_133) (XT.i0_eq_f (by decide)) rfl ?_
      refine go_iconst (q := 137) X118 hx (hb hby at_136) (v := (1 : Int32)) (by decide) rfl ?_
      refine go_goto (q := 141) X118 hx (hb hby at_137) (by decide) (by decide) ?_
      refine go_retI X118 hx hret hlk e118 (hb hby at_141) (by simp) (by decide) (by decide) (by decide) ?_
      exact ⟨rfl, N118, (((((((((((Keep.refl h0 []).ext E88).wr W89 (Or.inr sn88)).wr W90 (Or.inr sn88)).wr W91 (Or.inr sn88)).wr W92 (Or.inr sn88)).trans K94 all0).trans K109 all0).trans K112 all0).trans K115 all0).trans K118 all0)⟩
    · refine go_istore (q := 63) X94 hx (hb hby at_61) (l' := #[.val (.int p0), .val (.int x0), .val (.int x1), .val (.int x2), .val (.int x3), .val (.int (4 : Int32)), .val (.ref a88), .val (.int (2 : Int32)), .unset, .unset]) rfl rfl ?_
      refine go_iload (q := 65) X94 hx (hb hby at_63) (v := (2 : Int32)) rfl rfl ?_
      refine go_ifN (q := 68) X94 hx (hb hby at_65) (XT.i0_lt_f (by decide)) rfl ?_
      refine go_iload (q := 70) X94 hx (hb hby at_68) (v := (2 : Int32)) rfl rfl ?_
      refine go_iload (q := 72) X94 hx (hb hby at_70) (v := (4 : Int32)) rfl rfl ?_
      refine go_icmpY (q := 77) X94 hx (hb hby at_72) (XT.ii_lt_t (by decide)) (by decide) (by decide) ?_
      refine go_aload (q := 79) X94 hx (hb hby at_77) (v := (.ref a88)) rfl rfl rfl ?_
      refine go_iload (q := 81) X94 hx (hb hby at_79) (v := (2 : Int32)) rfl rfl ?_
      have f119 : Arv Z h94 a88 k88 .double (4 : Int32) [(.double (FP.i2d x0)), (.double (FP.i2d x1)), (.double (FP.i2d x2)), (.double (FP.i2d x3))] (.double 0) := (A92.keep K94 nin0)
      refine go_daload (q := 82) (j := (2 : Int32)) (v := (.double (FP.i2d x2))) X94 hx hZ e94 f119 (by decide) rfl (hb hby at_81) rfl ?_
      refine go_dstore (q := 84) X94 hx (hb hby at_82) (l' := #[.val (.int p0), .val (.int x0), .val (.int x1), .val (.int x2), .val (.int x3), .val (.int (4 : Int32)), .val (.ref a88), .val (.int (2 : Int32)), .val (.double (FP.i2d x2)), .second]) rfl rfl ?_
      refine go_aload (q := 86) X94 hx (hb hby at_84) (v := (.ref a88)) rfl rfl rfl ?_
      refine go_iconst (q := 87) X94 hx (hb hby at_86) (v := (0 : Int32)) (by decide) rfl ?_
      refine go_iload (q := 89) X94 hx (hb hby at_87) (v := (2 : Int32)) rfl rfl ?_
      refine go_dload (q := 91) X94 hx (hb hby at_89) (v := (FP.i2d x2)) rfl rfl ?_
      have O120 : Old Z n0 h94 := (O93.keep K94 all0)
      refine go_static (q := 94) X94 hx hZ hown (y := (⟨"com/example/causeway/causeway/model/SamplerMostLikelyPinLaw", "ok", "([DIID)Z"⟩ : MethodName)) (w5 hw) (w6 hw) (w7 hw) (w8 hw) (by decide) e94 (b2_2 l Z a0 hw a88 k88 (4 : Int32) [(.double (FP.i2d x0)), (.double (FP.i2d x1)), (.double (FP.i2d x2)), (.double (FP.i2d x3))] (.double 0) (0 : Int32) (2 : Int32) x0 x2 h94 n0 O120 f119 (by decide) rfl (by decide) (own_asym z0) (by decide) z0) (argsL := [(.ref a88), (.int (0 : Int32)), (.int (2 : Int32)), (.double (FP.i2d x2))]) (rest := []) rfl (lenOf pd_1 rfl) rfl (by rw [hml]; rfl) (W := 0) (Nat.le_of_eq rfl) (hb hby at_91) (by decide) (by decide) (by decide) (by decide) rfl ?_
      rintro T121 h121 _ L121 X121 e121 ⟨rfl, M121, K121⟩
      have N121 := Fr.app N94 M121
      refine go_ifN (q := 97) X121 hx (hb hby at_94) (XT.i0_eq_f (by decide)) rfl ?_
      refine go_aload (q := 99) X121 hx (hb hby at_97) (v := (.ref a88)) rfl rfl rfl ?_
      refine go_iconst (q := 100) X121 hx (hb hby at_99) (v := (1 : Int32)) (by decide) rfl ?_
      refine go_iload (q := 102) X121 hx (hb hby at_100) (v := (2 : Int32)) rfl rfl ?_
      refine go_dload (q := 104) X121 hx (hb hby at_102) (v := (FP.i2d x2)) rfl rfl ?_
      have f122 : Arv Z h121 a88 k88 .double (4 : Int32) [(.double (FP.i2d x0)), (.double (FP.i2d x1)), (.double (FP.i2d x2)), (.double (FP.i2d x3))] (.double 0) := (f119.keep K121 nin0)
      have O123 : Old Z n0 h121 := (O120.keep K121 all0)
      refine go_static (q := 107) X121 hx hZ hown (y := (⟨"com/example/causeway/causeway/model/SamplerMostLikelyPinLaw", "ok", "([DIID)Z"⟩ : MethodName)) (w5 hw) (w6 hw) (w7 hw) (w8 hw) (by decide) e121 (b2_2 l Z a0 hw a88 k88 (4 : Int32) [(.double (FP.i2d x0)), (.double (FP.i2d x1)), (.double (FP.i2d x2)), (.double (FP.i2d x3))] (.double 0) (1 : Int32) (2 : Int32) x1 x2 h121 n0 O123 f122 (by decide) rfl (by decide) (own_asym z1) (by decide) z1) (argsL := [(.ref a88), (.int (1 : Int32)), (.int (2 : Int32)), (.double (FP.i2d x2))]) (rest := []) rfl (lenOf pd_1 rfl) rfl (by rw [hml]; rfl) (W := 0) (Nat.le_of_eq rfl) (hb hby at_104) (by decide) (by decide) (by decide) (by decide) rfl ?_
      rintro T124 h124 _ L124 X124 e124 ⟨rfl, M124, K124⟩
      have N124 := Fr.app N121 M124
      refine go_ifN (q := 110) X124 hx (hb hby at_107) (XT.i0_eq_f (by decide)) rfl ?_
      refine go_aload (q := 112) X124 hx (hb hby at_110) (v := (.ref a88)) rfl rfl rfl ?_
      refine go_iconst (q := 113) X124 hx (hb hby at_112) (v := (2 : Int32)) (by decide) rfl ?_
      refine go_iload (q := 115) X124 hx (hb hby at_113) (v := (2 : Int32)) rfl rfl ?_
      refine go_dload (q := 117) X124 hx (hb hby at_115) (v := (FP.i2d x2)) rfl rfl ?_
      have f125 : Arv Z h124 a88 k88 .double (4 : Int32) [(.double (FP.i2d x0)), (.double (FP.i2d x1)), (.double (FP.i2d x2)), (.double (FP.i2d x3))] (.double 0) := (f122.keep K124 nin0)
      have O126 : Old Z n0 h124 := (O123.keep K124 all0)
      refine go_static (q := 120) X124 hx hZ hown (y := (⟨"com/example/causeway/causeway/model/SamplerMostLikelyPinLaw", "ok", "([DIID)Z"⟩ : MethodName)) (w5 hw) (w6 hw) (w7 hw) (w8 hw) (by decide) e124 (b2_1 l Z a0 hw a88 k88 (4 : Int32) [(.double (FP.i2d x0)), (.double (FP.i2d x1)), (.double (FP.i2d x2)), (.double (FP.i2d x3))] (.double 0) (2 : Int32) (2 : Int32) x2 x2 h124 n0 O126 f125 (by decide) rfl (by decide) (own_irr _) (by decide)) (argsL := [(.ref a88), (.int (2 : Int32)), (.int (2 : Int32)), (.double (FP.i2d x2))]) (rest := []) rfl (lenOf pd_1 rfl) rfl (by rw [hml]; rfl) (W := 0) (Nat.le_of_eq rfl) (hb hby at_117) (by decide) (by decide) (by decide) (by decide) rfl ?_
      rintro T127 h127 _ L127 X127 e127 ⟨rfl, M127, K127⟩
      have N127 := Fr.app N124 M127
      refine go_ifN (q := 123) X127 hx (hb hby at_120) (XT.i0_eq_f (by decide)) rfl ?_
      refine go_aload (q := 125) X127 hx (hb hby at_123) (v := (.ref a88)) rfl rfl rfl ?_
      refine go_iconst (q := 126) X127 hx (hb hby at_125) (v := (3 : Int32)) (by decide) rfl ?_
      refine go_iload (q := 128) X127 hx (hb hby at_126) (v := (2 : Int32)) rfl rfl ?_
      refine go_dload (q := 130) X127 hx (hb hby at_128) (v := (FP.i2d x2)) rfl rfl ?_
      have f128 : Arv Z h127 a88 k88 .double (4 : Int32) [(.double (FP.i2d x0)), (.double (FP.i2d x1)), (.double (FP.i2d x2)), (.double (FP.i2d x3))] (.double 0) := (f125.keep K127 nin0)
      have O129 : Old Z n0 h127 := (O126.keep K127 all0)
      refine go_static (q := 133) X127 hx hZ hown (y := (⟨"com/example/causeway/causeway/model/SamplerMostLikelyPinLaw", "ok", "([DIID)Z"⟩ : MethodName)) (w5 hw) (w6 hw) (w7 hw) (w8 hw) (by decide) e127 (b2_1 l Z a0 hw a88 k88 (4 : Int32) [(.double (FP.i2d x0)), (.double (FP.i2d x1)), (.double (FP.i2d x2)), (.double (FP.i2d x3))] (.double 0) (3 : Int32) (2 : Int32) x3 x2 h127 n0 O129 f128 (by decide) rfl (by decide) z3 (by decide)) (argsL := [(.ref a88), (.int (3 : Int32)), (.int (2 : Int32)), (.double (FP.i2d x2))]) (rest := []) rfl (lenOf pd_1 rfl) rfl (by rw [hml]; rfl) (W := 0) (Nat.le_of_eq rfl) (hb hby at_130) (by decide) (by decide) (by decide) (by decide) rfl ?_
      rintro T130 h130 _ L130 X130 e130 ⟨rfl, M130, K130⟩
      have N130 := Fr.app N127 M130
      refine go_ifN (q := 136) X130 hx (hb hby at_133) (XT.i0_eq_f (by decide)) rfl ?_
      refine go_iconst (q := 137) X130 hx (hb hby at_136) (v := (1 : Int32)) (by decide) rfl ?_
      refine go_goto (q := 141) X130 hx (hb hby at_137) (by decide) (by decide) ?_
      refine go_retI X130 hx hret hlk e130 (hb hby at_141) (by simp) (by decide) (by decide) (by decide) ?_
      exact ⟨rfl, N130, (((((((((((Keep.refl h0 []).ext E88).wr W89 (Or.inr sn88)).wr W90 (Or.inr sn88)).wr W91 (Or.inr sn88)).wr W92 (Or.inr sn88)).trans K94 all0).trans K121 all0).trans K124 all0).trans K127 all0).trans K130 all0)⟩
    · refine go_istore (q := 63) X94 hx (hb hby at_61) (l' := #[.val (.int p0), .val (.int x0), .val (.int x1), .val (.int x2), .val (.int x3), .val (.int (4 : Int32)), .val (.ref a88), .val (.int (3 : Int32)), .unset, .unset]) rfl rfl ?_
      refine go_iload (q := 65) X94 hx (hb hby at_63) (v := (3 : Int32)) rfl rfl ?_
      refine go_ifN (q := 68) X94 hx (hb hby at_65) (XT.i0_lt_f (by decide)) rfl ?_
      refine go_iload (q := 70) X94 hx (hb hby at_68) (v := (3 : Int32)) rfl rfl ?_
      refine go_iload (q := 72) X94 hx (hb hby at_70) (v := (4 : Int32)) rfl rfl ?_
      refine go_icmpY (q := 77) X94 hx (hb hby at_72) (XT.ii_lt_t (by decide)) (by decide) (by decide) ?_
      refine go_aload (q := 79) X94 hx (hb hby at_77) (v := (.ref a88)) rfl rfl rfl ?_
      refine go_iload (q := 81) X94 hx (hb hby at_79) (v := (3 : Int32)) rfl rfl ?_
      have f131 : Arv Z h94 a88 k88 .double (4 : Int32) [(.double (FP.i2d x0)), (.double (FP.i2d x1)), (.double (FP.i2d x2)), (.double (FP.i2d x3))] (.double 0) := (A92.keep K94 nin0)
      refine go_daload (q := 82) (j := (3 : Int32)) (v := (.double (FP.i2d x3))) X94 hx hZ e94 f131 (by decide) rfl (hb hby at_81) rfl ?_
      refine go_dstore (q := 84) X94 hx (hb hby at_82) (l' := #[.val (.int p0), .val (.int x0), .val (.int x1), .val (.int x2), .val (.int x3), .val (.int (4 : Int32)), .val (.ref a88), .val (.int (3 : Int32)), .val (.double (FP.i2d x3)), .second]) rfl rfl ?_
      refine go_aload (q := 86) X94 hx (hb hby at_84) (v := (.ref a88)) rfl rfl rfl ?_
      refine go_iconst (q := 87) X94 hx (hb hby at_86) (v := (0 : Int32)) (by decide) rfl ?_
      refine go_iload (q := 89) X94 hx (hb hby at_87) (v := (3 : Int32)) rfl rfl ?_
      refine go_dload (q := 91) X94 hx (hb hby at_89) (v := (FP.i2d x3)) rfl rfl ?_
      have O132 : Old Z n0 h94 := (O93.keep K94 all0)
      refine go_static (q := 94) X94 hx hZ hown (y := (⟨"com/example/causeway/causeway/model/SamplerMostLikelyPinLaw", "ok", "([DIID)Z"⟩ : MethodName)) (w5 hw) (w6 hw) (w7 hw) (w8 hw) (by decide) e94 (b2_2 l Z a0 hw a88 k88 (4 : Int32) [(.double (FP.i2d x0)), (.double (FP.i2d x1)), (.double (FP.i2d x2)), (.double (FP.i2d x3))] (.double 0) (0 : Int32) (3 : Int32) x0 x3 h94 n0 O132 f131 (by decide) rfl (by decide) (own_asym z0) (by decide) z0) (argsL := [(.ref a88), (.int (0 : Int32)), (.int (3 : Int32)), (.double (FP.i2d x3))]) (rest := []) rfl (lenOf pd_1 rfl) rfl (by rw [hml]; rfl) (W := 0) (Nat.le_of_eq rfl) (hb hby at_91) (by decide) (by decide) (by decide) (by decide) rfl ?_
      rintro T133 h133 _ L133 X133 e133 ⟨rfl, M133, K133⟩
      have N133 := Fr.app N94 M133
      refine go_ifN (q := 97) X133 hx (hb hby at_94) (XT.i0_eq_f (by decide)) rfl ?_
      refine go_aload (q := 99) X133 hx (hb hby at_97) (v := (.ref a88)) rfl rfl rfl ?_
      refine go_iconst (q := 100) X133 hx (hb hby at_99) (v := (1 : Int32)) (by decide) rfl ?_
      refine go_iload (q := 102) X133 hx (hb hby at_100) (v := (3 : Int32)) rfl rfl ?_
      refine go_dload (q := 104) X133 hx (hb hby at_102) (v := (FP.i2d x3)) rfl rfl ?_
      have f134 : Arv Z h133 a88 k88 .double (4 : Int32) [(.double (FP.i2d x0)), (.double (FP.i2d x1)), (.double (FP.i2d x2)), (.double (FP.i2d x3))] (.double 0) := (f131.keep K133 nin0)
      have O135 : Old Z n0 h133 := (O132.keep K133 all0)
      refine go_static (q := 107) X133 hx hZ hown (y := (⟨"com/example/causeway/causeway/model/SamplerMostLikelyPinLaw", "ok", "([DIID)Z"⟩ : MethodName)) (w5 hw) (w6 hw) (w7 hw) (w8 hw) (by decide) e133 (b2_2 l Z a0 hw a88 k88 (4 : Int32) [(.double (FP.i2d x0)), (.double (FP.i2d x1)), (.double (FP.i2d x2)), (.double (FP.i2d x3))] (.double 0) (1 : Int32) (3 : Int32) x1 x3 h133 n0 O135 f134 (by decide) rfl (by decide) (own_asym z1) (by decide) z1) (argsL := [(.ref a88), (.int (1 : Int32)), (.int (3 : Int32)), (.double (FP.i2d x3))]) (rest := []) rfl (lenOf pd_1 rfl) rfl (by rw [hml]; rfl) (W := 0) (Nat.le_of_eq rfl) (hb hby at_104) (by decide) (by decide) (by decide) (by decide) rfl ?_
      rintro T136 h136 _ L136 X136 e136 ⟨rfl, M136, K136⟩
      have N136 := Fr.app N133 M136
      refine go_ifN (q := 110) X136 hx (hb hby at_107) (XT.i0_eq_f (by decide)) rfl ?_
      refine go_aload (q := 112) X136 hx (hb hby at_110) (v := (.ref a88)) rfl rfl rfl ?_
      refine go_iconst (q := 113) X136 hx (hb hby at_112) (v := (2 : Int32)) (by decide) rfl ?_
      refine go_iload (q := 115) X136 hx (hb hby at_113) (v := (3 : Int32)) rfl rfl ?_
      refine go_dload (q := 117) X136 hx (hb hby at_115) (v := (FP.i2d x3)) rfl rfl ?_
      have f137 : Arv Z h136 a88 k88 .double (4 : Int32) [(.double (FP.i2d x0)), (.double (FP.i2d x1)), (.double (FP.i2d x2)), (.double (FP.i2d x3))] (.double 0) := (f134.keep K136 nin0)
      have O138 : Old Z n0 h136 := (O135.keep K136 all0)
      refine go_static (q := 120) X136 hx hZ hown (y := (⟨"com/example/causeway/causeway/model/SamplerMostLikelyPinLaw", "ok", "([DIID)Z"⟩ : MethodName)) (w5 hw) (w6 hw) (w7 hw) (w8 hw) (by decide) e136 (b2_2 l Z a0 hw a88 k88 (4 : Int32) [(.double (FP.i2d x0)), (.double (FP.i2d x1)), (.double (FP.i2d x2)), (.double (FP.i2d x3))] (.double 0) (2 : Int32) (3 : Int32) x2 x3 h136 n0 O138 f137 (by decide) rfl (by decide) (own_asym z2) (by decide) z2) (argsL := [(.ref a88), (.int (2 : Int32)), (.int (3 : Int32)), (.double (FP.i2d x3))]) (rest := []) rfl (lenOf pd_1 rfl) rfl (by rw [hml]; rfl) (W := 0) (Nat.le_of_eq rfl) (hb hby at_117) (by decide) (by decide) (by decide) (by decide) rfl ?_
      rintro T139 h139 _ L139 X139 e139 ⟨rfl, M139, K139⟩
      have N139 := Fr.app N136 M139
      refine go_ifN (q := 123) X139 hx (hb hby at_120) (XT.i0_eq_f (by decide)) rfl ?_
      refine go_aload (q := 125) X139 hx (hb hby at_123) (v := (.ref a88)) rfl rfl rfl ?_
      refine go_iconst (q := 126) X139 hx (hb hby at_125) (v := (3 : Int32)) (by decide) rfl ?_
      refine go_iload (q := 128) X139 hx (hb hby at_126) (v := (3 : Int32)) rfl rfl ?_
      refine go_dload (q := 130) X139 hx (hb hby at_128) (v := (FP.i2d x3)) rfl rfl ?_
      have f140 : Arv Z h139 a88 k88 .double (4 : Int32) [(.double (FP.i2d x0)), (.double (FP.i2d x1)), (.double (FP.i2d x2)), (.double (FP.i2d x3))] (.double 0) := (f137.keep K139 nin0)
      have O141 : Old Z n0 h139 := (O138.keep K139 all0)
      refine go_static (q := 133) X139 hx hZ hown (y := (⟨"com/example/causeway/causeway/model/SamplerMostLikelyPinLaw", "ok", "([DIID)Z"⟩ : MethodName)) (w5 hw) (w6 hw) (w7 hw) (w8 hw) (by decide) e139 (b2_1 l Z a0 hw a88 k88 (4 : Int32) [(.double (FP.i2d x0)), (.double (FP.i2d x1)), (.double (FP.i2d x2)), (.double (FP.i2d x3))] (.double 0) (3 : Int32) (3 : Int32) x3 x3 h139 n0 O141 f140 (by decide) rfl (by decide) (own_irr _) (by decide)) (argsL := [(.ref a88), (.int (3 : Int32)), (.int (3 : Int32)), (.double (FP.i2d x3))]) (rest := []) rfl (lenOf pd_1 rfl) rfl (by rw [hml]; rfl) (W := 0) (Nat.le_of_eq rfl) (hb hby at_130) (by decide) (by decide) (by decide) (by decide) rfl ?_
      rintro T142 h142 _ L142 X142 e142 ⟨rfl, M142, K142⟩
      have N142 := Fr.app N139 M142
      refine go_ifN (q := 136) X142 hx (hb hby at_133) (XT.i0_eq_f (by decide)) rfl ?_
      refine go_iconst (q := 137) X142 hx (hb hby at_136) (v := (1 : Int32)) (by decide) rfl ?_
      refine go_goto (q := 141) X142 hx (hb hby at_137) (by decide) (by decide) ?_
      refine go_retI X142 hx hret hlk e142 (hb hby at_141) (by simp) (by decide) (by decide) (by decide) ?_
      exact ⟨rfl, N142, (((((((((((Keep.refl h0 []).ext E88).wr W89 (Or.inr sn88)).wr W90 (Or.inr sn88)).wr W91 (Or.inr sn88)).wr W92 (Or.inr sn88)).trans K94 all0).trans K133 all0).trans K136 all0).trans K139 all0).trans K142 all0)⟩
set_option maxRecDepth 65536 in
set_option maxHeartbeats 40000000 in
theorem comes_1 {Post : Tables → Env → Array Value → State → Outcome → State → Prop} (hpost : ∀ tb e args s v u, (limb_1_1.after args s (.returned v) u = true ∧ limb_1_2.after args s (.returned v) u = true ∧ True) → FrameEnd s (.returned v) u (Jvm.fieldLocs frame_1_writes args s ++ Jvm.arrayLocs frame_1_arrays args s ++ Jvm.staticLocs frame_1_statics s) 16 128 → Post tb e args s (.returned v) u) :
    ArmFor flags0 classFile x code maxLocals ret World_1 tables_1 room_1 Calls_1 rest_1 Pre_1 Post := by
  intro l hfl _ _ p e ha hc hk s m args below hf hA hF happ hP
  obtain ⟨hcalls, hrest, hpre⟩ := hP
  obtain ⟨-, -, -, hnamed, -, -, -, hat⟩ := (Spec.applies_iff hf).mp happ
  obtain ⟨hg, hn⟩ := and_e (Cond.before_iff.mp (show (Jvm.Cond.and given_1 narrow_1).before args s = true from hpre))
  obtain ⟨hct, hg⟩ := and_e hg
  obtain ⟨w0, w1, w2, w3, w4, rfl⟩ : ∃ w0 w1 w2 w3 w4 : Value, args = #[w0, w1, w2, w3, w4] := by
    have hs : args.size = 5 := by simpa [Cond.value, given_1] using hct
    obtain ⟨L⟩ := args
    match L, hs with
    | [w0, w1, w2, w3, w4], _ => exact ⟨w0, w1, w2, w3, w4, rfl⟩
  have hw := fun d (hd : d ∈ tables_1) => atoms_spec (ws := Jvm.Cond.code x code maxLocals ret :: tables_1) hat d (List.mem_cons_of_mem _ hd)
  have hfit : Fit s := fun {y c} hc i hi => by
    obtain ⟨ha, rfl⟩ := Array.getElem?_eq_some_iff.mp hc
    have q := List.all_eq_true.mp ((Array.all_eq_true_iff_forall_mem.mp hF) _ (Array.getElem_mem ha)) i (List.mem_range.mpr hi)
    simpa [Array.getElem?_eq_getElem hi] using q
  obtain ⟨hg0, hg⟩ := and_e hg
  obtain ⟨i0, q0⟩ := is_v hg0
  obtain rfl : w0 = (.int i0) := Option.some.inj q0
  obtain ⟨hg1, hg⟩ := and_e hg
  obtain ⟨i1, q1⟩ := is_v hg1
  obtain rfl : w1 = (.int i1) := Option.some.inj q1
  obtain ⟨hg2, hg⟩ := and_e hg
  obtain ⟨i2, q2⟩ := is_v hg2
  obtain rfl : w2 = (.int i2) := Option.some.inj q2
  obtain ⟨hg3, hg⟩ := and_e hg
  obtain ⟨i3, q3⟩ := is_v hg3
  obtain rfl : w3 = (.int i3) := Option.some.inj q3
  obtain ⟨i4, q4⟩ := is_v hg
  obtain rfl : w4 = (.int i4) := Option.some.inj q4
  obtain ⟨n, o, h1, h2, h3, _, L, rfl, ⟨rfl, N, -⟩, hq⟩ := b0 l s _ hw i0 i1 i2 i3 i4 s.heap s.heap.size (Old.start s) tables_1 p e ha hc hk s m _ below hf ((Spec.applies_iff_loose hf).mp happ).1 ⟨rfl, State.Warmed39.refl s, rfl⟩ trivial
  refine ⟨n, _, h1, h2, h3, hpost _ _ _ _ _ _ ⟨Cond.after_iff.mpr rfl, Cond.after_iff.mpr (eq_i res_at (Term.int_eval (1)) rfl), trivial⟩ ⟨hq.1, hq.2.1, (hq.2.2.sift fun y hy => Or.inr (N y hy)).mono (by decide) (by decide)⟩⟩
theorem main_1_1 : Claimed_1_1 := comes_1 fun _ _ _ _ _ _ h hF => ⟨h.1, hF⟩
theorem main_1_2 : Claimed_1_2 := comes_1 fun _ _ _ _ _ _ h hF => ⟨h.2.1, hF⟩

end Jvm.Pilot.@@N@@
namespace Jvm.Pilot.@@N@@
open Jvm Jvm.ClassFile Sem Op Lib Jvm.Free Jvm.Stand Jvm.Pilot.@@N@@.Jvm.D
/-! MADE BY PROGRAM (witnessworld.py) out of the Statement's table words and the real class files: 10 classes; the members and pool entries that the words name. The judged class is class 1, her method 1. -/
namespace start1
open Jvm.ClassFile
def u (s : String) : CpInfo := .utf8 (stringToUtf16 s)
/-- a pool by its gaps: so many unusable entries, then the entry; so many at the end -/
def gap : Nat → List CpInfo → List CpInfo
  | 0, r => r
  | n + 1, r => .unusable :: gap n r
def poolList (es : List (Nat × CpInfo)) (last : Nat) : List CpInfo := es.foldr (fun e r => gap e.1 (e.2 :: r)) (gap last [])
def pool (es : List (Nat × CpInfo)) (last : Nat) : Array CpInfo := ⟨poolList es last⟩
def fileOf (pool : Array CpInfo) (this : Nat) (attrs : Array Attribute := #[]) (ms : Array MethodInfo := #[]) (fl : Nat := 33) (sup : Nat := 0) (ifs : Array Nat := #[]) (fds : Array FieldInfo := #[]) : ClassFile where
  minorVersion := 0
  majorVersion := 65
  constantPool := pool
  accessFlags := fl
  thisClass := this
  superClass := sup
  interfaces := ifs
  fields := fds
  methods := ms
  attributes := attrs
def plain (name : String) (sup : Option ClassId) : Class where
  name := name
  kind := .ordinary
  loader := none
  accessFlags := 33
  super := sup
  interfaces := #[]
  cf := none
  fields := #[]
  methods := #[]
  instanceTypes := #[]
  staticTypes := #[]
  resolved := #[]
  callSites := []
  init := .initialized
  statics := none
  mirror := none

def pool0 : Array CpInfo := pool [(5, u "<init>"), (0, u "()V"), (1, .class_ 10), (1, u "java/lang/Object")] 113

def k0m0 : Method := { name := "<init>", desc := "()V", sig := { parameters := [], returnType := none }, accessFlags := 1, code := none }
/-- java/lang/Object -/
def k0 : Class := { plain "java/lang/Object" none with
  accessFlags := 33
  interfaces := #[]
  cf := some (fileOf pool0 8 #[] #[{ accessFlags := 1, nameIndex := 5, descriptorIndex := 6, attributes := #[] }] 33 0 #[] #[])
  fields := #[]
  methods := #[k0m0]
  instanceTypes := #[]
  staticTypes := #[]
  resolved := Array.replicate 124 none
  statics := none }

def pool1 : Array CpInfo := pool [(2, .class_ 4), (1, u "java/lang/Object"), (0, u "<init>"), (0, u "()V"), (0, .methodref 8 9), (0, .class_ 10), (0, .nameAndType 11 12), (0, u "com/example/causeway/causeway/model/Sampler"), (0, u "mostLikely"), (0, u "([D)I"), (0, .methodref 14 15), (0, .class_ 16), (0, .nameAndType 17 18), (0, u "com/example/causeway/causeway/model/SamplerMostLikelyPinLaw"), (0, u "ok"), (0, u "([DIID)Z"), (2, u "law"), (0, u "(IIIII)Z")] 5

def k1m0 : Method := { name := "<init>", desc := "()V", sig := { parameters := [], returnType := none }, accessFlags := 1, code := none }
def k1c1 : Code := { maxStack := 5, maxLocals := 10, code := code, exceptionTable := #[], attributes := #[] }
def k1m1 : Method := { name := "law", desc := "(IIIII)Z", sig := { parameters := [.int, .int, .int, .int, .int], returnType := some .boolean }, accessFlags := 9, code := some k1c1 }
def k1c2 : Code := { maxStack := 4, maxLocals := 5, code := method_3_code, exceptionTable := #[], attributes := #[] }
def k1m2 : Method := { name := "ok", desc := "([DIID)Z", sig := { parameters := [(.array .double), .int, .int, .double], returnType := some .boolean }, accessFlags := 10, code := some k1c2 }
/-- com/example/causeway/causeway/model/SamplerMostLikelyPinLaw -/
def k1 : Class := { plain "com/example/causeway/causeway/model/SamplerMostLikelyPinLaw" (some 0) with
  accessFlags := 49
  interfaces := #[]
  cf := some (fileOf pool1 14 #[] #[{ accessFlags := 1, nameIndex := 5, descriptorIndex := 6, attributes := #[] }, { accessFlags := 9, nameIndex := 21, descriptorIndex := 22, attributes := #[] }, { accessFlags := 10, nameIndex := 17, descriptorIndex := 18, attributes := #[] }] 49 2 #[] #[])
  fields := #[]
  methods := #[k1m0, k1m1, k1m2]
  instanceTypes := #[]
  staticTypes := #[]
  resolved := Array.replicate 28 none
  statics := none }

def pool2 : Array CpInfo := pool [(2, .class_ 4), (1, u "java/lang/Object"), (0, u "<init>"), (0, u "()V"), (0, .class_ 8), (0, u "java/lang/Record")] 13

def k2m0 : Method := { name := "<init>", desc := "()V", sig := { parameters := [], returnType := none }, accessFlags := 4, code := none }
/-- java/lang/Record -/
def k2 : Class := { plain "java/lang/Record" (some 0) with
  accessFlags := 1057
  interfaces := #[]
  cf := some (fileOf pool2 7 #[] #[{ accessFlags := 4, nameIndex := 5, descriptorIndex := 6, attributes := #[] }] 1057 2 #[] #[])
  fields := #[]
  methods := #[k2m0]
  instanceTypes := #[]
  staticTypes := #[]
  resolved := Array.replicate 22 none
  statics := none }

def pool3 : Array CpInfo := pool [(2, .class_ 4), (1, u "java/lang/Record"), (20, .class_ 27), (1, u "com/example/causeway/causeway/model/Sampler"), (0, u "temperature"), (0, u "D"), (2, u "topK"), (0, u "I"), (2, u "topP"), (0, .class_ 38), (0, u "com/example/causeway/causeway/model/Sampler$Distribution"), (2, u "mostLikely"), (0, u "([D)I"), (82, u "DRAWING_BYTES_PER_ID"), (0, u "J")] 74

def k3c0 : Code := { maxStack := 4, maxLocals := 3, code := prog_56_method_5_code, exceptionTable := #[], attributes := #[] }
def k3m0 : Method := { name := "mostLikely", desc := "([D)I", sig := { parameters := [(.array .double)], returnType := some .int }, accessFlags := 8, code := some k3c0 }
/-- com/example/causeway/causeway/model/Sampler -/
def k3 : Class := { plain "com/example/causeway/causeway/model/Sampler" (some 2) with
  accessFlags := 49
  interfaces := #[]
  cf := some (fileOf pool3 25 #[.nestMembers #[37]] #[{ accessFlags := 8, nameIndex := 41, descriptorIndex := 42, attributes := #[] }] 49 2 #[] #[{ accessFlags := 18, nameIndex := 28, descriptorIndex := 29, attributes := #[] }, { accessFlags := 18, nameIndex := 32, descriptorIndex := 33, attributes := #[] }, { accessFlags := 18, nameIndex := 36, descriptorIndex := 29, attributes := #[] }, { accessFlags := 26, nameIndex := 125, descriptorIndex := 126, attributes := #[] }])
  fields := #[{ name := "temperature", type := .double, accessFlags := 18, slot := 0, constantValue := 0 }, { name := "topK", type := .int, accessFlags := 18, slot := 1, constantValue := 0 }, { name := "topP", type := .double, accessFlags := 18, slot := 2, constantValue := 0 }, { name := "DRAWING_BYTES_PER_ID", type := .long, accessFlags := 26, slot := 0, constantValue := 0 }]
  methods := #[k3m0]
  instanceTypes := #[.double, .int, .double]
  staticTypes := #[.long]
  resolved := Array.replicate 201 none
  statics := none }

def pool4 : Array CpInfo := pool [(1, u "java/lang/Cloneable"), (0, .class_ 1), (0, u "java/lang/Object"), (0, .class_ 3)] 3

/-- java/lang/Cloneable -/
def k4 : Class := { plain "java/lang/Cloneable" (some 0) with
  accessFlags := 1537
  interfaces := #[]
  cf := some (fileOf pool4 2 #[] #[] 1537 4 #[] #[])
  fields := #[]
  methods := #[]
  instanceTypes := #[]
  staticTypes := #[]
  resolved := Array.replicate 8 none
  statics := none }

def pool5 : Array CpInfo := pool [(1, u "java/io/Serializable"), (0, .class_ 1), (0, u "java/lang/Object"), (0, .class_ 3)] 3

/-- java/io/Serializable -/
def k5 : Class := { plain "java/io/Serializable" (some 0) with
  accessFlags := 1537
  interfaces := #[]
  cf := some (fileOf pool5 2 #[] #[] 1537 4 #[] #[])
  fields := #[]
  methods := #[]
  instanceTypes := #[]
  staticTypes := #[]
  resolved := Array.replicate 8 none
  statics := none }

/-- the primitive byte -/
def k6 : Class := { plain "byte" none with kind := .primitive 'B', accessFlags := 0x411 }
/-- [B -/
def k7 : Class := { plain "[B" (some 0) with kind := .array 6 .byte, interfaces := #[4, 5], accessFlags := 1041 }

/-- the primitive int -/
def k8 : Class := { plain "double" none with kind := .primitive 'D', accessFlags := 0x411 }
/-- [I -/
def k9 : Class := { plain "[D" (some 0) with kind := .array 8 .double, interfaces := #[4, 5], accessFlags := 1041 }

def heap : Heap := #[]
def classes : Array Class := #[k0, k1, k2, k3, k4, k5, k6, k7, k8, k9]
def interned : List (Array UInt16 × Addr) := []
def slotsUsed : Nat := 0
def theMethod : MethodId := ⟨1, 1⟩
def args0 : Array Value := #[.int 5, .int 7, .int 9, .int 3, .int 2]
def aboutOver (below : List Frame) : State where
  vm := { classes := classes, interned := interned.toArray }
  heap := heap
  slotsUsed := slotsUsed
  threads := #[{ frames := .invoking theMethod args0 :: below }]
def below0 : List Frame := [.native { method := ⟨0, 0⟩, args := #[] }]
def about1 : State := aboutOver below0
def p0 : Program := .bare "" "" ""
def e0 : Env := launch0.env 0 0 0
theorem w_frames : about1.frames = Frame.invoking theMethod args0 :: below0 := rfl
set_option maxRecDepth 65536 in
theorem w_args : argsFit about1.vm theMethod args0 = true := by decide +kernel
set_option maxRecDepth 65536 in
theorem w_heap : heapFits about1 = true := by decide +kernel
set_option maxRecDepth 65536 in
theorem w_runnable : about1.curStatus? = some .runnable := by decide +kernel
set_option maxRecDepth 65536 in
theorem w_alone : about1.alone = true := by decide +kernel
set_option maxRecDepth 65536 in
theorem w_named : about1.methodNamed? x = some theMethod := by decide +kernel
set_option maxRecDepth 65536 in
theorem w_hears : about1.hears theMethod below0 = true := by decide +kernel
set_option maxRecDepth 65536 in
theorem w_ripe : about1.ripe theMethod args0 below0 = true := by decide +kernel
theorem w_running : about1.status = .running := rfl
set_option maxRecDepth 65536 in
theorem w_room : about1.hasRoom e0.platform room_1 = true :=
  launch0.hasRoom_least _ room_1 (by decide +kernel) (by decide +kernel) (by decide +kernel) (by decide +kernel) (by decide +kernel) (by decide +kernel)
theorem allAtoms_all (ts : List Jvm.Cond) (a : Array Jvm.Value) (st : Jvm.State) : (allAtoms ts).before a st = ts.all (fun c => c.before a st) := by
  induction ts with
  | nil => rfl
  | cons c t ih =>
    show (Jvm.Cond.and c (allAtoms t)).before a st = _
    rw [Jvm.Cond.before_and, ih, List.all_cons]
def words1 : List Jvm.Cond := Jvm.Cond.code x code maxLocals ret :: tables_1
/-- a 'code' word, met by the world's own term for the bytes: nothing is compared byte by byte -/
theorem code_word {y : MethodName} {bytes : ByteArray} {mx : Nat} {rt : Option FieldType} {a : Array Value} {s : State} {m : MethodId} {meth : Method} {c : Code} (h1 : s.methodNamed? y = some m) (h2 : s.vm.method? m = some meth) (h3 : meth.code = some c) (h4 : c.code = bytes)
    (h5 : (c.maxLocals == mx && c.exceptionTable.isEmpty && decide (c.maxStack ≤ mostOperands) && decide (meth.sig.returnType = rt) && !meth.locks && decide (parseMethodDescriptor y.desc = some meth.sig)) = true) : (Jvm.Cond.code y bytes mx rt).before a s = true := by
  simp only [Bool.and_eq_true, beq_iff_eq, Bool.not_eq_true', decide_eq_true_eq] at h5
  obtain ⟨⟨⟨⟨⟨g1, g2⟩, g3⟩, g4⟩, g5⟩, g6⟩ := h5
  simp [Cond.before, Cond.holds, Cond.value, h1, h2, h3, h4, g1, g2, g3, g4, g5, g6]
def isCode : Jvm.Cond → Bool
  | .code _ _ _ _ => true
  | _ => false
theorem all_split {L : List Jvm.Cond} {P : Jvm.Cond → Bool} (h1 : L.all (fun c => isCode c || P c) = true) (h2 : ∀ c ∈ L.filter isCode, P c = true) : L.all P = true := by
  refine List.all_eq_true.mpr fun c hc => ?_
  have h := List.all_eq_true.mp h1 c hc
  rcases Bool.eq_false_or_eq_true (isCode c) with hi | hi
  · exact h2 c (List.mem_filter.mpr ⟨hc, hi⟩)
  · simpa [hi] using h
set_option maxRecDepth 65536 in
theorem w_c0 : (Jvm.Cond.code x code maxLocals ret).before args0 about1 = true := code_word (m := ⟨1, 1⟩) (meth := k1m1) (c := k1c1) (by decide +kernel) rfl rfl rfl (by decide +kernel)
set_option maxRecDepth 65536 in
theorem w_c1 : (Jvm.Cond.code ({ cls := "com/example/causeway/causeway/model/Sampler", name := "mostLikely", desc := "([D)I" } : Jvm.MethodName) prog_56_method_5_code (3 : Nat) (Option.some Jvm.ClassFile.FieldType.int)).before args0 about1 = true := code_word (m := ⟨3, 0⟩) (meth := k3m0) (c := k3c0) (by decide +kernel) rfl rfl rfl (by decide +kernel)
set_option maxRecDepth 65536 in
theorem w_c2 : (Jvm.Cond.code ({ cls := "com/example/causeway/causeway/model/SamplerMostLikelyPinLaw", name := "ok", desc := "([DIID)Z" } : Jvm.MethodName) method_3_code (5 : Nat) (Option.some Jvm.ClassFile.FieldType.boolean)).before args0 about1 = true := code_word (m := ⟨1, 2⟩) (meth := k1m2) (c := k1c2) (by decide +kernel) rfl rfl rfl (by decide +kernel)
def codes1 : List Jvm.Cond := [Jvm.Cond.code x code maxLocals ret, Jvm.Cond.code ({ cls := "com/example/causeway/causeway/model/Sampler", name := "mostLikely", desc := "([D)I" } : Jvm.MethodName) prog_56_method_5_code (3 : Nat) (Option.some Jvm.ClassFile.FieldType.int), Jvm.Cond.code ({ cls := "com/example/causeway/causeway/model/SamplerMostLikelyPinLaw", name := "ok", desc := "([DIID)Z" } : Jvm.MethodName) method_3_code (5 : Nat) (Option.some Jvm.ClassFile.FieldType.boolean)]
set_option maxRecDepth 65536 in
theorem codes_eq : words1.filter isCode = codes1 := rfl
theorem w_codes : ∀ c ∈ words1.filter isCode, c.before args0 about1 = true := by
  rw [codes_eq]
  intro c hc
  simp only [codes1, List.mem_cons, List.not_mem_nil, or_false] at hc
  rcases hc with rfl | rfl | rfl
  · exact w_c0
  · exact w_c1
  · exact w_c2
set_option maxRecDepth 65536 in
theorem w_t1 : words1.all (fun c => isCode c || c.before args0 about1) = true := by decide +kernel
theorem w_tables : (allAtoms (Jvm.Cond.code x code maxLocals ret :: tables_1)).before args0 about1 = true := by
  rw [allAtoms_all]
  show words1.all (fun c => c.before args0 about1) = true
  refine all_split ?_ w_codes
  rw [w_t1]
set_option maxRecDepth 65536 in
theorem w_case : (Jvm.Cond.and given_1 narrow_1).before args0 about1 = true := by decide +kernel
theorem w_applies : (headSpec (Jvm.Cond.code x code maxLocals ret :: tables_1) room_1).applies x e0.platform about1 = true :=
  (Spec.applies_iff w_frames).mpr ⟨w_running, w_runnable, w_alone, w_named, w_hears, w_ripe, w_room, w_tables⟩
theorem atStart : AtStart classFile x code maxLocals ret World_1 tables_1 room_1 Calls_1 rest_1 Pre_1 launch0 p0 e0 about1 theMethod args0 below0 :=
  ⟨lists_1, trivial, launch0.admits_env _ _ _, launch0.least_env, fairChoices_fair.cas, fairChoices_fair.clock, w_frames, w_args, w_heap, w_applies, trivial, trivial, w_case⟩
end start1
theorem witness_1 : WitnessClaimed_1 := ⟨start1.p0, start1.e0, start1.about1, start1.theMethod, start1.args0, start1.below0, start1.atStart⟩
end Jvm.Pilot.@@N@@
