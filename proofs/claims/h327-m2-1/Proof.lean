import JvmDerived
import JvmDerived.Pilot.@@N@@Statement
import JvmDerived.Pilot.@@N@@Code
set_option linter.unusedVariables false
set_option linter.unusedSimpArgs false
@@BLOCK:NumsL.lean.txt@@
namespace Jvm.Pilot.@@N@@
open Jvm Jvm.ClassFile Sem Op Lib Jvm.Free Jvm.Stand Jvm.LawKit Jvm.RoadKit Bundle Jvm.Pilot.@@N@@.Jvm.D
section OwnKit
variable {p : Program} {l : Launch} {e : Env} {R : Room} {s : State} {m : MethodId} {args : Array Value} {below : List Frame} {meth : Method} {c : Code} {T T' : State} {locs : List Loc} {cells slots : Nat} {Z : State} {a0 : Array Value} {h h' : Heap} {CC SS : Nat} {Q : Option Value → Heap → List Loc → Prop} {P : State → Prop} {g g' : JFrame} {pc q : Nat} {Ls l' : Array Slot} {st stk rest argsL : List Value}
/-- the run from here comes to a state of which P holds -/
def Go (p : Program) (e : Env) (below : List Frame) (P : State → Prop) (T : State) (g : JFrame) : Prop := ∃ s₂, Steps p.tables e below (T.setTop g) s₂ ∧ P s₂
/-- it ended by a return, and what it leaves is Q -/
def PN (below : List Frame) (s : State) (CC SS : Nat) (Q : Option Value → Heap → List Loc → Prop) (s₂ : State) : Prop :=
  s₂.status = .running ∧ ∃ v L, Ended s₂ below (.returned v) ∧ Q v s₂.heap L ∧ FrameEnd s (.returned v) s₂ L CC SS
theorem Go.back (K : Go p e below P T' g') (k : ∀ t, Steps p.tables e below (T'.setTop g') t → Steps p.tables e below (T.setTop g) t) : Go p e below P T g := by
  obtain ⟨s₂, h1, h2⟩ := K
  exact ⟨s₂, k _ h1, h2⟩
theorem own_le {n0 : Nat} (X : Old Z n0 h) : n0 ≤ h.size := X.1 ▸ X.2.1
theorem own_ge {n0 a : Nat} (X : Old Z n0 h) (g : a = h.size) : n0 ≤ a := g ▸ own_le X
theorem own_lt {a b : Nat} {h : Heap} (g : b = h.size) (k : a < h.size) : a ≠ b := by rw [g]; exact Nat.ne_of_lt k
theorem own_ltg {a b : Nat} {h : Heap} (g : h.size ≤ b) (k : a < h.size) : a ≠ b := Nat.ne_of_lt (Nat.lt_of_lt_of_le k g)
/-- what a body's walk shows -/
def Con (l : Launch) (Z : State) (y : MethodName) (bytes : ByteArray) (maxL : Nat) (ret : Option FieldType) (rm : Room) (as' : Array Value) (h0 : Heap) (Q : Option Value → Heap → List Loc → Prop) : Prop :=
  ∀ ws : List Jvm.Cond, MetFree l y (head1 (Jvm.Cond.code y bytes maxL ret :: ws) rm) (fun a U => a = as' ∧ Z.Warmed39 U.vm ∧ U.heap = h0) (fun _ _ _ _ _ => True) (fun _ U o U' => ∃ v L, o = .returned v ∧ Q v U'.heap L ∧ FrameEnd U o U' L rm.cells rm.slots)
theorem Con.of {y : MethodName} {bytes : ByteArray} {maxL : Nat} {ret : Option FieldType} {rm : Room} {as' : Array Value} {h0 : Heap} (hpl : plainFor y = true)
    (body : ∀ p e s m below meth c s₁, p.tables.exec = Jvm.exec → c.code = bytes → c.maxLocals = maxL → Z.Warmed39 s.vm → s.vm.findClass y.cls = some m.cls → meth.name = y.name → meth.sig.returnType = ret → meth.locks = false → Stand p l e rm s m as' below meth c s₁ [] 0 0 → s₁.heap = h0 → Go p e below (PN below s rm.cells rm.slots Q) s₁ (entryFrame m as' maxL)) : Con l Z y bytes maxL ret rm as' h0 Q := by
  intro ws
  refine MetFree.of_bodySF hpl hisR ?_
  intro p e s m args below meth c s₁ Bd hml0 hP hK
  obtain ⟨rfl, hZ, hh⟩ := hP
  obtain ⟨s₂, h1, h2, v, L, h3, h4, h5⟩ := body p e s m below meth c s₁ Bd.exec Bd.bytes hml0 hZ (findClass_of_methodNamed Bd.named) (name_of_methodNamed Bd.named Bd.method).1 Bd.returns Bd.notSynchronized (Stand.of_body Bd) (by rw [← hh, Bd.state]; rfl)
  exact ⟨s₂, _, h1, h2, h3, v, L, rfl, h4, h5⟩
theorem go_cast (K : Go p e below P T g') (k : g = g') : Go p e below P T g := k ▸ K
theorem go_ret0 (X : Stand p l e R s m args below meth c T locs cells slots) (hx : p.tables.exec = Jvm.exec) (hret : meth.sig.returnType = none) (hlk : meth.locks = false) (eT : T.heap = h) (hd : decode c.code pc = .ok (.return_, 1)) (hc : cells ≤ CC) (hs : slots ≤ SS) (hQ : Q none h locs) : Go p e below (PN below s CC SS Q) T (mkF m pc Ls []) := by
  obtain ⟨fs, hr, hrun, hended, hW, hsame⟩ := X.leave (v := none) (fun _ => rfl) hlk
  exact ⟨_, X.returnOut hx hret hd hr, hrun, _, _, hended, by rw [← eT] at hQ; exact hQ, ⟨_, rfl⟩, hW, hsame.mono hc hs⟩
theorem go_retA {t : FieldType} {w : Value} (X : Stand p l e R s m args below meth c T locs cells slots) (hx : p.tables.exec = Jvm.exec) (hret : meth.sig.returnType = some t) (hlk : meth.locks = false) (eT : T.heap = h) (hd : decode c.code pc = .ok (.areturn, 1)) (ht : t.isReference = true) (hw : w.isRef = true) (hn : narrow t w = w) (hc : cells ≤ CC) (hs : slots ≤ SS) (hQ : Q (some w) h locs) : Go p e below (PN below s CC SS Q) T (mkF m pc Ls (w :: st)) := by
  obtain ⟨fs, hr, hrun, hended, hW, hsame⟩ := X.leave (v := some w) (fun z => by rw [hret] at z; cases z) hlk
  exact ⟨_, retOut X hx hret hn (Or.inr (Or.inr (Or.inr (Or.inr ⟨rfl, ht, hw⟩)))) hd hr, hrun, _, _, hended, by rw [← eT] at hQ; exact hQ, ⟨_, rfl⟩, hW, hsame.mono hc hs⟩
theorem go_retI {t : FieldType} {z : Int32} (X : Stand p l e R s m args below meth c T locs cells slots) (hx : p.tables.exec = Jvm.exec) (hret : meth.sig.returnType = some t) (hlk : meth.locks = false) (eT : T.heap = h) (hd : decode c.code pc = .ok (.ireturn, 1)) (ht : t = .int ∨ t = .boolean ∨ t = .byte ∨ t = .char ∨ t = .short) (hn : narrow t (.int z) = .int z) (hc : cells ≤ CC) (hs : slots ≤ SS) (hQ : Q (some (.int z)) h locs) : Go p e below (PN below s CC SS Q) T (mkF m pc Ls (.int z :: st)) := by
  obtain ⟨fs, hr, hrun, hended, hW, hsame⟩ := X.leave (v := some (.int z)) (fun z => by rw [hret] at z; cases z) hlk
  exact ⟨_, retOut X hx hret hn (Or.inl ⟨rfl, ht, z, rfl⟩) hd hr, hrun, _, _, hended, by rw [← eT] at hQ; exact hQ, ⟨_, rfl⟩, hW, hsame.mono hc hs⟩
theorem go_retL {z : Int64} (X : Stand p l e R s m args below meth c T locs cells slots) (hx : p.tables.exec = Jvm.exec) (hret : meth.sig.returnType = some .long) (hlk : meth.locks = false) (eT : T.heap = h) (hd : decode c.code pc = .ok (.lreturn, 1)) (hc : cells ≤ CC) (hs : slots ≤ SS) (hQ : Q (some (.long z)) h locs) : Go p e below (PN below s CC SS Q) T (mkF m pc Ls (.long z :: st)) := by
  obtain ⟨fs, hr, hrun, hended, hW, hsame⟩ := X.leave (v := some (.long z)) (fun z => by rw [hret] at z; cases z) hlk
  exact ⟨_, retOut X hx hret rfl (Or.inr (Or.inl ⟨rfl, rfl, z, rfl⟩)) hd hr, hrun, _, _, hended, by rw [← eT] at hQ; exact hQ, ⟨_, rfl⟩, hW, hsame.mono hc hs⟩
theorem go_aload_n {k : Fin 4} {v : Value} (X : Stand p l e R s m args below meth c T locs cells slots) (hx : p.tables.exec = Jvm.exec) (hd : decode c.code pc = .ok (.aload_n k, 1)) (hl : Ls[k.val]? = some (.val v)) (hv : v.isRef = true) (hq : pc + 1 = q) (K : Go p e below P T (mkF m q Ls (v :: st))) : Go p e below P T (mkF m pc Ls st) := by
  subst hq; exact K.back fun _ j => XS.aloadN X.here hx rfl hd hl hv j
theorem go_aload {k : Nat} {v : Value} (X : Stand p l e R s m args below meth c T locs cells slots) (hx : p.tables.exec = Jvm.exec) (hd : decode c.code pc = .ok (.aload k, 2)) (hl : Ls[k]? = some (.val v)) (hv : v.isRef = true) (hq : pc + 2 = q) (K : Go p e below P T (mkF m q Ls (v :: st))) : Go p e below P T (mkF m pc Ls st) := by
  subst hq; exact K.back fun _ j => XS.aload X.here hx rfl hd hl hv j
theorem go_iload_n {k : Fin 4} {v : Int32} (X : Stand p l e R s m args below meth c T locs cells slots) (hx : p.tables.exec = Jvm.exec) (hd : decode c.code pc = .ok (.iload_n k, 1)) (hl : Ls[k.val]? = some (.val (.int v))) (hq : pc + 1 = q) (K : Go p e below P T (mkF m q Ls (.int v :: st))) : Go p e below P T (mkF m pc Ls st) := by
  subst hq; exact K.back fun _ j => XS.iloadN X.here hx rfl hd hl j
theorem go_iload {k : Nat} {v : Int32} (X : Stand p l e R s m args below meth c T locs cells slots) (hx : p.tables.exec = Jvm.exec) (hd : decode c.code pc = .ok (.iload k, 2)) (hl : Ls[k]? = some (.val (.int v))) (hq : pc + 2 = q) (K : Go p e below P T (mkF m q Ls (.int v :: st))) : Go p e below P T (mkF m pc Ls st) := by
  subst hq; exact K.back fun _ j => XS.iload X.here hx rfl hd hl j
theorem go_lload_n {k : Fin 4} {v : Int64} (X : Stand p l e R s m args below meth c T locs cells slots) (hx : p.tables.exec = Jvm.exec) (hd : decode c.code pc = .ok (.lload_n k, 1)) (hl : Ls[k.val]? = some (.val (.long v))) (hq : pc + 1 = q) (K : Go p e below P T (mkF m q Ls (.long v :: st))) : Go p e below P T (mkF m pc Ls st) := by
  subst hq; exact K.back fun _ j => XT.lloadN X.here hx rfl hd hl j
theorem go_lload {k : Nat} {v : Int64} (X : Stand p l e R s m args below meth c T locs cells slots) (hx : p.tables.exec = Jvm.exec) (hd : decode c.code pc = .ok (.lload k, 2)) (hl : Ls[k]? = some (.val (.long v))) (hq : pc + 2 = q) (K : Go p e below P T (mkF m q Ls (.long v :: st))) : Go p e below P T (mkF m pc Ls st) := by
  subst hq; exact K.back fun _ j => XT.lload X.here hx rfl hd hl j
theorem go_istore_n {k : Fin 4} {x : Int32} (X : Stand p l e R s m args below meth c T locs cells slots) (hx : p.tables.exec = Jvm.exec) (hd : decode c.code pc = .ok (.istore_n k, 1)) (hl : storeLocals Ls k.val (.int x) = some l') (hq : pc + 1 = q) (K : Go p e below P T (mkF m q l' st)) : Go p e below P T (mkF m pc Ls (.int x :: st)) := by
  subst hq; exact K.back fun _ j => XS.istoreN X.here hx rfl hd rfl hl j
theorem go_istore {k : Nat} {x : Int32} (X : Stand p l e R s m args below meth c T locs cells slots) (hx : p.tables.exec = Jvm.exec) (hd : decode c.code pc = .ok (.istore k, 2)) (hl : storeLocals Ls k (.int x) = some l') (hq : pc + 2 = q) (K : Go p e below P T (mkF m q l' st)) : Go p e below P T (mkF m pc Ls (.int x :: st)) := by
  subst hq; exact K.back fun _ j => XS.istore X.here hx rfl hd rfl hl j
theorem go_astore_n {k : Fin 4} {x : Value} (X : Stand p l e R s m args below meth c T locs cells slots) (hx : p.tables.exec = Jvm.exec) (hd : decode c.code pc = .ok (.astore_n k, 1)) (hv : x.isRef = true) (hl : storeLocals Ls k.val x = some l') (hq : pc + 1 = q) (K : Go p e below P T (mkF m q l' st)) : Go p e below P T (mkF m pc Ls (x :: st)) := by
  subst hq; exact K.back fun _ j => XS.astoreN X.here hx rfl hd rfl hv hl j
theorem go_astore {k : Nat} {x : Value} (X : Stand p l e R s m args below meth c T locs cells slots) (hx : p.tables.exec = Jvm.exec) (hd : decode c.code pc = .ok (.astore k, 2)) (hv : x.isRef = true) (hl : storeLocals Ls k x = some l') (hq : pc + 2 = q) (K : Go p e below P T (mkF m q l' st)) : Go p e below P T (mkF m pc Ls (x :: st)) := by
  subst hq; exact K.back fun _ j => XS.astore X.here hx rfl hd rfl hv hl j
theorem go_lstore_n {k : Fin 4} {x : Int64} (X : Stand p l e R s m args below meth c T locs cells slots) (hx : p.tables.exec = Jvm.exec) (hd : decode c.code pc = .ok (.lstore_n k, 1)) (hl : storeLocals Ls k.val (.long x) = some l') (hq : pc + 1 = q) (K : Go p e below P T (mkF m q l' st)) : Go p e below P T (mkF m pc Ls (.long x :: st)) := by
  subst hq; exact K.back fun _ j => XT.lstoreN X.here hx rfl hd rfl hl j
theorem go_lstore {k : Nat} {x : Int64} (X : Stand p l e R s m args below meth c T locs cells slots) (hx : p.tables.exec = Jvm.exec) (hd : decode c.code pc = .ok (.lstore k, 2)) (hl : storeLocals Ls k (.long x) = some l') (hq : pc + 2 = q) (K : Go p e below P T (mkF m q l' st)) : Go p e below P T (mkF m pc Ls (.long x :: st)) := by
  subst hq; exact K.back fun _ j => XT.lstore X.here hx rfl hd rfl hl j
theorem go_iconst {i : Int} {v : Int32} (X : Stand p l e R s m args below meth c T locs cells slots) (hx : p.tables.exec = Jvm.exec) (hd : decode c.code pc = .ok (.iconst i, 1)) (hv : Int32.ofInt i = v) (hq : pc + 1 = q) (K : Go p e below P T (mkF m q Ls (.int v :: st))) : Go p e below P T (mkF m pc Ls st) := by
  subst hq; exact K.back fun _ j => XT.iconstV X.here hx rfl v hd hv j
theorem go_bipush {i : Int} {v : Int32} (X : Stand p l e R s m args below meth c T locs cells slots) (hx : p.tables.exec = Jvm.exec) (hd : decode c.code pc = .ok (.bipush i, 2)) (hv : (Int8.ofInt i).toInt32 = v) (hq : pc + 2 = q) (K : Go p e below P T (mkF m q Ls (.int v :: st))) : Go p e below P T (mkF m pc Ls st) := by
  subst hq; exact K.back fun _ j => XT.bipushV X.here hx rfl v hd hv j
theorem go_sipush {i : Int} {v : Int32} (X : Stand p l e R s m args below meth c T locs cells slots) (hx : p.tables.exec = Jvm.exec) (hd : decode c.code pc = .ok (.sipush i, 3)) (hv : (Int16.ofInt i).toInt32 = v) (hq : pc + 3 = q) (K : Go p e below P T (mkF m q Ls (.int v :: st))) : Go p e below P T (mkF m pc Ls st) := by
  subst hq; exact K.back fun _ j => XT.sipushV X.here hx rfl v hd hv j
theorem go_lconst {k : Fin 2} {v : Int64} (X : Stand p l e R s m args below meth c T locs cells slots) (hx : p.tables.exec = Jvm.exec) (hd : decode c.code pc = .ok (.lconst k, 1)) (hv : Int64.ofNat k = v) (hq : pc + 1 = q) (K : Go p e below P T (mkF m q Ls (.long v :: st))) : Go p e below P T (mkF m pc Ls st) := by
  subst hq; exact K.back fun _ j => XT.lconstV X.here hx rfl v hd hv j
theorem go_aconst_null  (X : Stand p l e R s m args below meth c T locs cells slots) (hx : p.tables.exec = Jvm.exec) (hd : decode c.code pc = .ok (.aconst_null, 1))  (hq : pc + 1 = q) (K : Go p e below P T (mkF m q Ls (.null :: st))) : Go p e below P T (mkF m pc Ls st) := by
  subst hq; exact K.back fun _ j => XS.aconstNull X.here hx rfl hd j
theorem go_iadd {x y v : Int32} (X : Stand p l e R s m args below meth c T locs cells slots) (hx : p.tables.exec = Jvm.exec) (hd : decode c.code pc = .ok (.iadd, 1)) (hv : x + y = v) (hq : pc + 1 = q) (K : Go p e below P T (mkF m q Ls (.int v :: st))) : Go p e below P T (mkF m pc Ls (.int y :: .int x :: st)) := by
  subst hq; exact K.back fun _ j => XS.iadd X.here hx rfl hd rfl (hv ▸ j)
theorem go_isub {x y v : Int32} (X : Stand p l e R s m args below meth c T locs cells slots) (hx : p.tables.exec = Jvm.exec) (hd : decode c.code pc = .ok (.isub, 1)) (hv : x - y = v) (hq : pc + 1 = q) (K : Go p e below P T (mkF m q Ls (.int v :: st))) : Go p e below P T (mkF m pc Ls (.int y :: .int x :: st)) := by
  subst hq; exact K.back fun _ j => XS.isub X.here hx rfl hd rfl (hv ▸ j)
theorem go_imul {x y v : Int32} (X : Stand p l e R s m args below meth c T locs cells slots) (hx : p.tables.exec = Jvm.exec) (hd : decode c.code pc = .ok (.imul, 1)) (hv : x * y = v) (hq : pc + 1 = q) (K : Go p e below P T (mkF m q Ls (.int v :: st))) : Go p e below P T (mkF m pc Ls (.int y :: .int x :: st)) := by
  subst hq; exact K.back fun _ j => XS.imul X.here hx rfl hd rfl (hv ▸ j)
theorem go_iand {x y v : Int32} (X : Stand p l e R s m args below meth c T locs cells slots) (hx : p.tables.exec = Jvm.exec) (hd : decode c.code pc = .ok (.iand, 1)) (hv : x &&& y = v) (hq : pc + 1 = q) (K : Go p e below P T (mkF m q Ls (.int v :: st))) : Go p e below P T (mkF m pc Ls (.int y :: .int x :: st)) := by
  subst hq; exact K.back fun _ j => XS.iand X.here hx rfl hd rfl (hv ▸ j)
theorem go_ior {x y v : Int32} (X : Stand p l e R s m args below meth c T locs cells slots) (hx : p.tables.exec = Jvm.exec) (hd : decode c.code pc = .ok (.ior, 1)) (hv : x ||| y = v) (hq : pc + 1 = q) (K : Go p e below P T (mkF m q Ls (.int v :: st))) : Go p e below P T (mkF m pc Ls (.int y :: .int x :: st)) := by
  subst hq; exact K.back fun _ j => XT.ior X.here hx rfl hd rfl (hv ▸ j)
theorem go_ixor {x y v : Int32} (X : Stand p l e R s m args below meth c T locs cells slots) (hx : p.tables.exec = Jvm.exec) (hd : decode c.code pc = .ok (.ixor, 1)) (hv : x ^^^ y = v) (hq : pc + 1 = q) (K : Go p e below P T (mkF m q Ls (.int v :: st))) : Go p e below P T (mkF m pc Ls (.int y :: .int x :: st)) := by
  subst hq; exact K.back fun _ j => XT.ixor X.here hx rfl hd rfl (hv ▸ j)
theorem go_ishl {x y v : Int32} (X : Stand p l e R s m args below meth c T locs cells slots) (hx : p.tables.exec = Jvm.exec) (hd : decode c.code pc = .ok (.ishl, 1)) (hv : x <<< (y &&& 31) = v) (hq : pc + 1 = q) (K : Go p e below P T (mkF m q Ls (.int v :: st))) : Go p e below P T (mkF m pc Ls (.int y :: .int x :: st)) := by
  subst hq; exact K.back fun _ j => XT.ishl X.here hx rfl hd rfl (hv ▸ j)
theorem go_ishr {x y v : Int32} (X : Stand p l e R s m args below meth c T locs cells slots) (hx : p.tables.exec = Jvm.exec) (hd : decode c.code pc = .ok (.ishr, 1)) (hv : x >>> (y &&& 31) = v) (hq : pc + 1 = q) (K : Go p e below P T (mkF m q Ls (.int v :: st))) : Go p e below P T (mkF m pc Ls (.int y :: .int x :: st)) := by
  subst hq; exact K.back fun _ j => XT.ishr X.here hx rfl hd rfl (hv ▸ j)
theorem go_iushr {x y v : Int32} (X : Stand p l e R s m args below meth c T locs cells slots) (hx : p.tables.exec = Jvm.exec) (hd : decode c.code pc = .ok (.iushr, 1)) (hv : XT.ushr x y = v) (hq : pc + 1 = q) (K : Go p e below P T (mkF m q Ls (.int v :: st))) : Go p e below P T (mkF m pc Ls (.int y :: .int x :: st)) := by
  subst hq; exact K.back fun _ j => XT.iushr X.here hx rfl hd rfl (hv ▸ j)
theorem go_irem {x y : Int32} (X : Stand p l e R s m args below meth c T locs cells slots) (hx : p.tables.exec = Jvm.exec) (hd : decode c.code pc = .ok (.irem, 1)) (hy : y ≠ 0) (hq : pc + 1 = q) (K : Go p e below P T (mkF m q Ls (.int (x % y) :: st))) : Go p e below P T (mkF m pc Ls (.int y :: .int x :: st)) := by
  subst hq; exact K.back fun _ j => RoadKit.iremM X hx rfl hd rfl hy j
theorem go_idiv {x y : Int32} (X : Stand p l e R s m args below meth c T locs cells slots) (hx : p.tables.exec = Jvm.exec) (hd : decode c.code pc = .ok (.idiv, 1)) (hy : y ≠ 0) (hq : pc + 1 = q) (K : Go p e below P T (mkF m q Ls (.int (x / y) :: st))) : Go p e below P T (mkF m pc Ls (.int y :: .int x :: st)) := by
  subst hq; exact K.back fun _ j => XS.idiv X.here hx rfl hd rfl hy j
theorem go_i2c {x v : Int32} (X : Stand p l e R s m args below meth c T locs cells slots) (hx : p.tables.exec = Jvm.exec) (hd : decode c.code pc = .ok (.i2c, 1)) (hv : x.toUInt32.toUInt16.toUInt32.toInt32 = v) (hq : pc + 1 = q) (K : Go p e below P T (mkF m q Ls (.int v :: st))) : Go p e below P T (mkF m pc Ls (.int x :: st)) := by
  subst hq; exact K.back fun _ j => XT.i2c X.here hx rfl hd rfl (hv ▸ j)
theorem go_i2b {x v : Int32} (X : Stand p l e R s m args below meth c T locs cells slots) (hx : p.tables.exec = Jvm.exec) (hd : decode c.code pc = .ok (.i2b, 1)) (hv : x.toInt8.toInt32 = v) (hq : pc + 1 = q) (K : Go p e below P T (mkF m q Ls (.int v :: st))) : Go p e below P T (mkF m pc Ls (.int x :: st)) := by
  subst hq; exact K.back fun _ j => XT.i2b X.here hx rfl hd rfl (hv ▸ j)
theorem go_i2l {x : Int32} (X : Stand p l e R s m args below meth c T locs cells slots) (hx : p.tables.exec = Jvm.exec) (hd : decode c.code pc = .ok (.i2l, 1))  (hq : pc + 1 = q) (K : Go p e below P T (mkF m q Ls (.long x.toInt64 :: st))) : Go p e below P T (mkF m pc Ls (.int x :: st)) := by
  subst hq; exact K.back fun _ j => XT.i2l X.here hx rfl hd rfl j
theorem go_ladd {x y : Int64} (X : Stand p l e R s m args below meth c T locs cells slots) (hx : p.tables.exec = Jvm.exec) (hd : decode c.code pc = .ok (.ladd, 1))  (hq : pc + 1 = q) (K : Go p e below P T (mkF m q Ls (.long (x + y) :: st))) : Go p e below P T (mkF m pc Ls (.long y :: .long x :: st)) := by
  subst hq; exact K.back fun _ j => XT.ladd X.here hx rfl hd rfl j
theorem go_lsub {x y : Int64} (X : Stand p l e R s m args below meth c T locs cells slots) (hx : p.tables.exec = Jvm.exec) (hd : decode c.code pc = .ok (.lsub, 1))  (hq : pc + 1 = q) (K : Go p e below P T (mkF m q Ls (.long (x - y) :: st))) : Go p e below P T (mkF m pc Ls (.long y :: .long x :: st)) := by
  subst hq; exact K.back fun _ j => XT.lsub X.here hx rfl hd rfl j
theorem go_lmul {x y : Int64} (X : Stand p l e R s m args below meth c T locs cells slots) (hx : p.tables.exec = Jvm.exec) (hd : decode c.code pc = .ok (.lmul, 1))  (hq : pc + 1 = q) (K : Go p e below P T (mkF m q Ls (.long (x * y) :: st))) : Go p e below P T (mkF m pc Ls (.long y :: .long x :: st)) := by
  subst hq; exact K.back fun _ j => XT.lmul X.here hx rfl hd rfl j
theorem go_land {x y : Int64} (X : Stand p l e R s m args below meth c T locs cells slots) (hx : p.tables.exec = Jvm.exec) (hd : decode c.code pc = .ok (.land, 1))  (hq : pc + 1 = q) (K : Go p e below P T (mkF m q Ls (.long (x &&& y) :: st))) : Go p e below P T (mkF m pc Ls (.long y :: .long x :: st)) := by
  subst hq; exact K.back fun _ j => XT.land X.here hx rfl hd rfl j
theorem go_lor {x y : Int64} (X : Stand p l e R s m args below meth c T locs cells slots) (hx : p.tables.exec = Jvm.exec) (hd : decode c.code pc = .ok (.lor, 1))  (hq : pc + 1 = q) (K : Go p e below P T (mkF m q Ls (.long (x ||| y) :: st))) : Go p e below P T (mkF m pc Ls (.long y :: .long x :: st)) := by
  subst hq; exact K.back fun _ j => XT.lor X.here hx rfl hd rfl j
theorem go_lxor {x y : Int64} (X : Stand p l e R s m args below meth c T locs cells slots) (hx : p.tables.exec = Jvm.exec) (hd : decode c.code pc = .ok (.lxor, 1))  (hq : pc + 1 = q) (K : Go p e below P T (mkF m q Ls (.long (x ^^^ y) :: st))) : Go p e below P T (mkF m pc Ls (.long y :: .long x :: st)) := by
  subst hq; exact K.back fun _ j => XT.lxor X.here hx rfl hd rfl j
theorem go_lshl {x : Int64} {y : Int32} (X : Stand p l e R s m args below meth c T locs cells slots) (hx : p.tables.exec = Jvm.exec) (hd : decode c.code pc = .ok (.lshl, 1))  (hq : pc + 1 = q) (K : Go p e below P T (mkF m q Ls (.long (x <<< (y.toInt64 &&& 63)) :: st))) : Go p e below P T (mkF m pc Ls (.int y :: .long x :: st)) := by
  subst hq; exact K.back fun _ j => XT.lshl X.here hx rfl hd rfl j
theorem go_lcmp {x y : Int64} (X : Stand p l e R s m args below meth c T locs cells slots) (hx : p.tables.exec = Jvm.exec) (hd : decode c.code pc = .ok (.lcmp, 1))  (hq : pc + 1 = q) (K : Go p e below P T (mkF m q Ls (.int (XT.cmpL x y) :: st))) : Go p e below P T (mkF m pc Ls (.long y :: .long x :: st)) := by
  subst hq; exact K.back fun _ j => XT.lcmp X.here hx rfl hd rfl j
theorem go_dload_n {k : Fin 4} {v : UInt64} (X : Stand p l e R s m args below meth c T locs cells slots) (hx : p.tables.exec = Jvm.exec) (hd : decode c.code pc = .ok (.dload_n k, 1)) (hl : Ls[k.val]? = some (.val (.double v))) (hq : pc + 1 = q) (K : Go p e below P T (mkF m q Ls (.double v :: st))) : Go p e below P T (mkF m pc Ls st) := by
  subst hq; exact K.back fun _ j => XS.dloadN X.here hx rfl hd hl j
theorem go_dload {k : Nat} {v : UInt64} (X : Stand p l e R s m args below meth c T locs cells slots) (hx : p.tables.exec = Jvm.exec) (hd : decode c.code pc = .ok (.dload k, 2)) (hl : Ls[k]? = some (.val (.double v))) (hq : pc + 2 = q) (K : Go p e below P T (mkF m q Ls (.double v :: st))) : Go p e below P T (mkF m pc Ls st) := by
  subst hq; exact K.back fun _ j => XS.dload X.here hx rfl hd hl j
theorem go_dstore_n {k : Fin 4} {x : UInt64} (X : Stand p l e R s m args below meth c T locs cells slots) (hx : p.tables.exec = Jvm.exec) (hd : decode c.code pc = .ok (.dstore_n k, 1)) (hl : storeLocals Ls k.val (.double x) = some l') (hq : pc + 1 = q) (K : Go p e below P T (mkF m q l' st)) : Go p e below P T (mkF m pc Ls (.double x :: st)) := by
  subst hq; exact K.back fun _ j => XS.dstoreN X.here hx rfl hd rfl hl j
theorem go_dstore {k : Nat} {x : UInt64} (X : Stand p l e R s m args below meth c T locs cells slots) (hx : p.tables.exec = Jvm.exec) (hd : decode c.code pc = .ok (.dstore k, 2)) (hl : storeLocals Ls k (.double x) = some l') (hq : pc + 2 = q) (K : Go p e below P T (mkF m q l' st)) : Go p e below P T (mkF m pc Ls (.double x :: st)) := by
  subst hq; exact K.back fun _ j => XS.dstore X.here hx rfl hd rfl hl j
theorem go_dconst0 {v : UInt64} (X : Stand p l e R s m args below meth c T locs cells slots) (hx : p.tables.exec = Jvm.exec) (hd : decode c.code pc = .ok (.dconst 0, 1)) (hv : FP.dconst0 = v) (hq : pc + 1 = q) (K : Go p e below P T (mkF m q Ls (.double v :: st))) : Go p e below P T (mkF m pc Ls st) := by
  subst hq; exact K.back fun _ j => XS.dconst0 X.here hx rfl hd hv j
theorem go_dconst1 {v : UInt64} (X : Stand p l e R s m args below meth c T locs cells slots) (hx : p.tables.exec = Jvm.exec) (hd : decode c.code pc = .ok (.dconst 1, 1)) (hv : FP.dconst1 = v) (hq : pc + 1 = q) (K : Go p e below P T (mkF m q Ls (.double v :: st))) : Go p e below P T (mkF m pc Ls st) := by
  subst hq; exact K.back fun _ j => XS.dconst1 X.here hx rfl hd hv j
theorem go_i2d {x : Int32} (X : Stand p l e R s m args below meth c T locs cells slots) (hx : p.tables.exec = Jvm.exec) (hd : decode c.code pc = .ok (.i2d, 1))  (hq : pc + 1 = q) (K : Go p e below P T (mkF m q Ls (.double (FP.i2d x) :: st))) : Go p e below P T (mkF m pc Ls (.int x :: st)) := by
  subst hq; exact K.back fun _ j => XS.i2dS X.here hx rfl hd rfl rfl j
theorem go_dcmp {o : CmpOp} {x y : UInt64} (X : Stand p l e R s m args below meth c T locs cells slots) (hx : p.tables.exec = Jvm.exec) (hd : decode c.code pc = .ok (.dcmp o, 1))  (hq : pc + 1 = q) (K : Go p e below P T (mkF m q Ls (.int (cmpValue (FP.dcmp x y) o) :: st))) : Go p e below P T (mkF m pc Ls (.double y :: .double x :: st)) := by
  subst hq; exact K.back fun _ j => XS.dcmpS X.here hx rfl hd rfl rfl j
theorem go_ddiv {x y : UInt64} (X : Stand p l e R s m args below meth c T locs cells slots) (hx : p.tables.exec = Jvm.exec) (hd : decode c.code pc = .ok (.ddiv, 1)) (hn : Jvm.Free.Fl.NoNaN64 (FP.ddiv x y)) (hq : pc + 1 = q) (K : Go p e below P T (mkF m q Ls (.double (FP.ddiv x y) :: st))) : Go p e below P T (mkF m pc Ls (.double y :: .double x :: st)) := by
  subst hq; exact K.back fun _ j => XS.ddivS X.here hx rfl hd rfl hn rfl j
theorem go_iinc {k : Nat} {cst : Int} {x v : Int32} (X : Stand p l e R s m args below meth c T locs cells slots) (hx : p.tables.exec = Jvm.exec) (hd : decode c.code pc = .ok (.iinc k cst, 3)) (hl : Ls[k]? = some (.val (.int x))) (hv : x + Int32.ofInt cst = v) (hl' : storeLocals Ls k (.int v) = some l') (hq : pc + 3 = q) (K : Go p e below P T (mkF m q l' st)) : Go p e below P T (mkF m pc Ls st) := by
  subst hq; exact K.back fun _ j => XS.iinc X.here hx rfl hd hl (by rw [hv]; exact hl') j
theorem go_dup {x : Value} (X : Stand p l e R s m args below meth c T locs cells slots) (hx : p.tables.exec = Jvm.exec) (hd : decode c.code pc = .ok (.dup, 1)) (hc : x.category = 1) (hq : pc + 1 = q) (K : Go p e below P T (mkF m q Ls (x :: x :: st))) : Go p e below P T (mkF m pc Ls (x :: st)) := by
  subst hq; exact K.back fun _ j => XS.dup X.here hx rfl hd rfl hc j
theorem go_dup_x1 {x y : Value} (X : Stand p l e R s m args below meth c T locs cells slots) (hx : p.tables.exec = Jvm.exec) (hd : decode c.code pc = .ok (.dup_x1, 1)) (hc : x.category = 1) (hc' : y.category = 1) (hq : pc + 1 = q) (K : Go p e below P T (mkF m q Ls (x :: y :: x :: st))) : Go p e below P T (mkF m pc Ls (x :: y :: st)) := by
  subst hq; exact K.back fun _ j => XT.dupX1 X.here hx rfl hd rfl hc hc' j
theorem go_pop {x : Value} (X : Stand p l e R s m args below meth c T locs cells slots) (hx : p.tables.exec = Jvm.exec) (hd : decode c.code pc = .ok (.pop, 1)) (hc : x.category = 1) (hq : pc + 1 = q) (K : Go p e below P T (mkF m q Ls st)) : Go p e below P T (mkF m pc Ls (x :: st)) := by
  subst hq; exact K.back fun _ j => XT.pop X.here hx rfl hd rfl hc j
theorem go_ifN {cd : ClassFile.Cond} {o : Int} {x : Int32} (X : Stand p l e R s m args below meth c T locs cells slots) (hx : p.tables.exec = Jvm.exec) (hd : decode c.code pc = .ok (.ifCond cd o, 3)) (hc : ifCond.holds cd x = false) (hq : pc + 3 = q) (K : Go p e below P T (mkF m q Ls st)) : Go p e below P T (mkF m pc Ls (.int x :: st)) := by
  subst hq; exact K.back fun _ j => XS.ifNo X.here hx rfl hd rfl hc j
theorem go_icmpN {cd : ClassFile.Cond} {o : Int} {x y : Int32} (X : Stand p l e R s m args below meth c T locs cells slots) (hx : p.tables.exec = Jvm.exec) (hd : decode c.code pc = .ok (.if_icmp cd o, 3)) (hc : if_icmp.holds cd x y = false) (hq : pc + 3 = q) (K : Go p e below P T (mkF m q Ls st)) : Go p e below P T (mkF m pc Ls (.int y :: .int x :: st)) := by
  subst hq; exact K.back fun _ j => XS.icmpNo X.here hx rfl hd rfl hc j
theorem go_ifnullN {o : Int} {b : Addr} (X : Stand p l e R s m args below meth c T locs cells slots) (hx : p.tables.exec = Jvm.exec) (hd : decode c.code pc = .ok (.ifnull o, 3))  (hq : pc + 3 = q) (K : Go p e below P T (mkF m q Ls st)) : Go p e below P T (mkF m pc Ls (.ref b :: st)) := by
  subst hq; exact K.back fun _ j => XS.ifnullNo X.here hx rfl hd rfl j
theorem go_ifnonnullN {o : Int} (X : Stand p l e R s m args below meth c T locs cells slots) (hx : p.tables.exec = Jvm.exec) (hd : decode c.code pc = .ok (.ifnonnull o, 3))  (hq : pc + 3 = q) (K : Go p e below P T (mkF m q Ls st)) : Go p e below P T (mkF m pc Ls (.null :: st)) := by
  subst hq; exact K.back fun _ j => XT.ifnonnullNo X.here hx rfl hd rfl j
theorem go_goto  {o : Int} (X : Stand p l e R s m args below meth c T locs cells slots) (hx : p.tables.exec = Jvm.exec) (hd : decode c.code pc = .ok (.goto o, 3))  (ho : 0 ≤ (pc : Int) + o) (hq : ((pc : Int) + o).toNat = q) (K : Go p e below P T (mkF m q Ls st)) : Go p e below P T (mkF m pc Ls st) :=
  K.back fun _ j => XS.goto X.here hx rfl (pc0 := pc) rfl hd ho hq j
theorem go_ifY {cd : ClassFile.Cond} {x : Int32} {o : Int} (X : Stand p l e R s m args below meth c T locs cells slots) (hx : p.tables.exec = Jvm.exec) (hd : decode c.code pc = .ok (.ifCond cd o, 3)) (hc : ifCond.holds cd x = true) (ho : 0 ≤ (pc : Int) + o) (hq : ((pc : Int) + o).toNat = q) (K : Go p e below P T (mkF m q Ls st)) : Go p e below P T (mkF m pc Ls (.int x :: st)) :=
  K.back fun _ j => XS.ifYes X.here hx rfl (pc0 := pc) rfl hd rfl hc ho hq j
theorem go_icmpY {cd : ClassFile.Cond} {x y : Int32} {o : Int} (X : Stand p l e R s m args below meth c T locs cells slots) (hx : p.tables.exec = Jvm.exec) (hd : decode c.code pc = .ok (.if_icmp cd o, 3)) (hc : if_icmp.holds cd x y = true) (ho : 0 ≤ (pc : Int) + o) (hq : ((pc : Int) + o).toNat = q) (K : Go p e below P T (mkF m q Ls st)) : Go p e below P T (mkF m pc Ls (.int y :: .int x :: st)) :=
  K.back fun _ j => XS.icmpYes X.here hx rfl (pc0 := pc) rfl hd rfl hc ho hq j
theorem go_ifnullY  {o : Int} (X : Stand p l e R s m args below meth c T locs cells slots) (hx : p.tables.exec = Jvm.exec) (hd : decode c.code pc = .ok (.ifnull o, 3))  (ho : 0 ≤ (pc : Int) + o) (hq : ((pc : Int) + o).toNat = q) (K : Go p e below P T (mkF m q Ls st)) : Go p e below P T (mkF m pc Ls (.null :: st)) :=
  K.back fun _ j => XS.ifnullYes X.here hx rfl (pc0 := pc) rfl hd rfl ho hq j
theorem go_ifnonnullY {b : Addr} {o : Int} (X : Stand p l e R s m args below meth c T locs cells slots) (hx : p.tables.exec = Jvm.exec) (hd : decode c.code pc = .ok (.ifnonnull o, 3))  (ho : 0 ≤ (pc : Int) + o) (hq : ((pc : Int) + o).toNat = q) (K : Go p e below P T (mkF m q Ls st)) : Go p e below P T (mkF m pc Ls (.ref b :: st)) :=
  K.back fun _ j => XT.ifnonnullYes X.here hx rfl (pc0 := pc) rfl hd rfl ho hq j
theorem go_ldcI {v : Int32} {own : String} {index : Nat} (X : Stand p l e R s m args below meth c T locs cells slots) (hx : p.tables.exec = Jvm.exec) (hZ : Z.Warmed39 s.vm) (hown : s.vm.findClass own = some m.cls) (w : (Cond.constant own index v).before a0 Z = true) (hd : decode c.code pc = .ok (.ldc index, 2)) (hq : pc + 2 = q) (K : Go p e below P T (mkF m q Ls (.int v :: st))) : Go p e below P T (mkF m pc Ls st) := by
  subst hq; exact K.back fun _ k => X.ldcI hx hown (mvT hZ w) rfl hd k
theorem go_ldc2J {v : Int64} {own : String} {index : Nat} (X : Stand p l e R s m args below meth c T locs cells slots) (hx : p.tables.exec = Jvm.exec) (hZ : Z.Warmed39 s.vm) (hown : s.vm.findClass own = some m.cls) (w : (Cond.constantLong own index v).before a0 Z = true) (hd : decode c.code pc = .ok (.ldc2_w index, 3)) (hq : pc + 3 = q) (K : Go p e below P T (mkF m q Ls (.long v :: st))) : Go p e below P T (mkF m pc Ls st) := by
  subst hq; exact K.back fun _ k => X.ldc2J hx hown (mvT hZ w) rfl hd k
theorem go_ldc2D {v : UInt64} {own : String} {index : Nat} (X : Stand p l e R s m args below meth c T locs cells slots) (hx : p.tables.exec = Jvm.exec) (hZ : Z.Warmed39 s.vm) (hown : s.vm.findClass own = some m.cls) (w : (Cond.constantDouble own index v).before a0 Z = true) (hd : decode c.code pc = .ok (.ldc2_w index, 3)) (hq : pc + 3 = q) (K : Go p e below P T (mkF m q Ls (.double v :: st))) : Go p e below P T (mkF m pc Ls st) := by
  subst hq; exact K.back fun t k => X.ldc2DoubleC hx hown (mvT hZ w) (g := mkF m pc Ls st) rfl hd t k
theorem own_narb (x : Int32) : nar .byte x.toInt8.toInt32 = x.toInt8.toInt32 := by simp [nar]
theorem own_eqI {first s : State} {o : Option Outcome} {idx : List Nat} {t : Term} {k : Int32} (h : (Cond.eq t (Term.int k)).value args first o s idx = some true) : t.eval args first o idx s = some (.int k) := by
  simp only [Cond.value, Term.eval] at h
  cases ht : t.eval args first o idx s with
  | none => simp [ht] at h
  | some x => cases x <;> simp [ht] at h ⊢; exact h
theorem own_eqR {first s : State} {o : Option Outcome} {idx : List Nat} {t u : Term} {b : Addr} (h : (Cond.eq t u).value args first o s idx = some true) (hu : u.eval args first o idx s = some (.ref b)) : t.eval args first o idx s = some (.ref b) := by
  simp only [Cond.value, hu] at h
  cases ht : t.eval args first o idx s with
  | none => simp [ht] at h
  | some x => cases x <;> simp [ht] at h ⊢; exact h
theorem own_narR {t : FieldType} {v : Value} (h : v.isRef = true) (ht : t.isReference = true) : narrow t v = v := by cases v <;> simp [Value.isRef] at h <;> cases t <;> first | rfl | (simp [FieldType.isReference] at ht)
theorem own_fitR {t : FieldType} {v : Value} (h : v.isRef = true) (ht : t.isReference = true) : fits t v = true := by cases v <;> simp [Value.isRef] at h <;> cases t <;> first | rfl | (simp [FieldType.isReference] at ht)
theorem go_cast1 {own KK : String} {index : Nat} {a : Addr} (X : Stand p l e R s m args below meth c T locs cells slots) (hx : p.tables.exec = Jvm.exec) (hZ : Z.Warmed39 s.vm) (hown : s.vm.findClass own = some m.cls) (w : (Cond.classLink own index KK).before a0 Z = true) (eT : T.heap = h) (F : Ins Z h a KK true) (hd : decode c.code pc = .ok (.checkcast index, 3)) (hq : pc + 3 = q)
    (K : ∀ T', Stand p l e R s m args below meth c T' locs cells slots → T'.heap = h → Go p e below P T' (mkF m q Ls (.ref a :: st))) : Go p e below P T (mkF m pc Ls (.ref a :: st)) := by
  subst hq
  obtain ⟨T', X', e', k⟩ := castY X hx hZ hown w eT F (g := mkF m pc Ls (.ref a :: st)) rfl rfl hd
  exact (K T' X' e').back k
theorem go_acmp {cd : ACond} {x y : Value} {o : Int} {same : Bool} (X : Stand p l e R s m args below meth c T locs cells slots) (hx : p.tables.exec = Jvm.exec) (hd : decode c.code pc = .ok (.if_acmp cd o, 3)) (h1 : x.isRef = true) (h2 : y.isRef = true) (hq : decide (x = y) = same) (ho : 0 ≤ (pc : Int) + o) (hp : q = if acV cd same = true then ((pc : Int) + o).toNat else pc + 3)
    (K : Go p e below P T (mkF m q Ls st)) : Go p e below P T (mkF m pc Ls (y :: x :: st)) :=
  K.back fun _ k => RoadKit.acmp X hx rfl h1 h2 rfl hd rfl hq ho hp k
theorem go_getF {own R0 O n d host : String} {index : Nat} {a : Addr} {v : Value} (X : Stand p l e R s m args below meth c T locs cells slots) (hx : p.tables.exec = Jvm.exec) (hZ : Z.Warmed39 s.vm) (hown : s.vm.findClass own = some m.cls) (w : (Cond.fieldLink own index R0 n d).before a0 Z = true ∨ (Cond.fieldLinkNest own index R0 n d host).before a0 Z = true) (via : Via Z R0 O n d) (eT : T.heap = h) (F : Fld Z h a O n d v) (hd : decode c.code pc = .ok (.getfield index, 3)) (hq : pc + 3 = q)
    (K : ∀ T', Stand p l e R s m args below meth c T' locs cells slots → T'.heap = h → Go p e below P T' (mkF m q Ls (v :: st))) : Go p e below P T (mkF m pc Ls (.ref a :: st)) := by
  subst hq
  obtain ⟨T', X', e', k⟩ := getF X hx hZ hown w via eT F (g := mkF m pc Ls (.ref a :: st)) rfl rfl hd
  exact (K T' X' e').back k
theorem go_getS {own R0 O n d host : String} {index : Nat} {v : Value} (X : Stand p l e R s m args below meth c T locs cells slots) (hx : p.tables.exec = Jvm.exec) (hZ : Z.Warmed39 s.vm) (hown : s.vm.findClass own = some m.cls) (w : (Cond.fieldLink own index R0 n d).before a0 Z = true ∨ (Cond.fieldLinkNest own index R0 n d host).before a0 Z = true) (via : Via Z R0 O n d) (eT : T.heap = h) (F : Sta Z h O n d v) (hd : decode c.code pc = .ok (.getstatic index, 3)) (hq : pc + 3 = q)
    (K : ∀ T', Stand p l e R s m args below meth c T' locs cells slots → T'.heap = h → Go p e below P T' (mkF m q Ls (v :: st))) : Go p e below P T (mkF m pc Ls st) := by
  subst hq
  obtain ⟨T', X', e', k⟩ := getS2 X hx hZ hown w via eT F (g := mkF m pc Ls st) rfl hd
  exact (K T' X' e').back k
theorem go_putF {own R0 O n d host C : String} {index kk : Nat} {ty : FieldType} {a : Addr} {v old : Value} (X : Stand p l e R s m args below meth c T locs cells slots) (hx : p.tables.exec = Jvm.exec) (hZ : Z.Warmed39 s.vm) (hown : s.vm.findClass own = some m.cls) (w : (Cond.fieldLink own index R0 n d).before a0 Z = true ∨ (Cond.fieldLinkNest own index R0 n d host).before a0 Z = true) (via : Via Z R0 O n d)
    (eT : T.heap = h) (F : Fld Z h a O n d old) (E : Exa Z h a C) (L : (Cond.lays C O n d).before a0 Z = true ∨ ((Cond.laysFinal C O n d).before a0 Z = true ∧ own = O ∧ meth.name = "<init>")) (wi : (Cond.instantiable C kk).before a0 Z = true)
    (hty : parseFieldDescriptor d = some ty) (hn : narrow ty v = v) (hf : fits ty v = true) (hd : decode c.code pc = .ok (.putfield index, 3)) (hq : pc + 3 = q)
    (K : ∀ T' h', Stand p l e R s m args below meth c T' (locs ++ [⟨a, RoadKit.slotOf Z O n d⟩]) cells slots → T'.heap = h' → Wr h h' a (RoadKit.slotOf Z O n d) v → Go p e below P T' (mkF m q Ls st)) : Go p e below P T (mkF m pc Ls (v :: .ref a :: st)) := by
  subst hq
  obtain ⟨T', h', X', e', W, k⟩ := putF X hx hZ hown w via eT F E L wi hty hn hf (g := mkF m pc Ls (v :: .ref a :: st)) rfl rfl hd
  exact (K T' h' X' e' W).back k
theorem go_new {own C : String} {index n : Nat} (X : Stand p l e R s m args below meth c T locs cells slots) (hx : p.tables.exec = Jvm.exec) (hZ : Z.Warmed39 s.vm) (hown : s.vm.findClass own = some m.cls) (w : (Cond.classLink own index C).before a0 Z = true) (wi : (Cond.instantiable C n).before a0 Z = true) (wz : (Cond.initialized C).before a0 Z = true) (eT : T.heap = h) (hd : decode c.code pc = .ok (.new index, 3)) (hc : cells + 1 ≤ R.cells) (hl : slots + n ≤ R.slots) (hq : pc + 3 = q)
    (K : ∀ T' h' a, a = h.size → Stand p l e R s m args below meth c T' locs (cells + 1) (slots + n) → T'.heap = h' → Ext h h' → Exa Z h' a C → (∀ {O nm d : String} {ty : FieldType}, Laid Z a0 C O nm d → parseFieldDescriptor d = some ty → Fld Z h' a O nm d (defaultValue ty)) → Go p e below P T' (mkF m q Ls (.ref a :: st))) : Go p e below P T (mkF m pc Ls st) := by
  subst hq
  obtain ⟨T', h', X', e', E, A, D, -, k⟩ := newO X hx hZ hown w wi wz eT (g := mkF m pc Ls st) rfl hd hc hl
  exact (K T' h' _ rfl X' e' E A D).back k
theorem go_initO {own : String} {idx W : Nat} {a : Addr} (X : Stand p l e R s m args below meth c T locs cells slots) (hx : p.tables.exec = Jvm.exec) (hZ : Z.Warmed39 s.vm) (hown : s.vm.findClass own = some m.cls) (w1 : (Cond.methodLink own idx Lib.objectInit).before a0 Z = true) (w2 : (Cond.instanceMethod Lib.objectInit).before a0 Z = true)
    (w3 : (Cond.code Lib.objectInit ⟨#[0xb1]⟩ 1 none).before a0 Z = true) (eT : T.heap = h) (hml : Ls.size = c.maxLocals) (hd : decode c.code pc = .ok (.invokespecial idx, 3)) (hf : 1 ≤ R.frames) (hW : (st.map fun v => v.category).sum ≤ W) (hl : W + 12 ≤ R.locals) (hq : pc + 3 = q)
    (K : ∀ T', Stand p l e R s m args below meth c T' locs cells slots → T'.heap = h → Go p e below P T' (mkF m q Ls st)) : Go p e below P T (mkF m pc Ls (.ref a :: st)) := by
  subst hq
  obtain ⟨T', X', e', k⟩ := initO X hx hZ hown w1 w2 w3 eT (g := mkF m pc Ls (.ref a :: st)) rfl hml rfl hd hf (W := W) (by show 2 * 0 + _ ≤ _; omega) hl
  exact (K T' X' e').back k
theorem go_alen {a : Addr} {k : ClassId} {ty : FieldType} {n : Int32} {vs : List Value} {dv : Value} (X : Stand p l e R s m args below meth c T locs cells slots) (hx : p.tables.exec = Jvm.exec) (hZ : Z.Warmed39 s.vm) (eT : T.heap = h) (F : Arv Z h a k ty n vs dv) (hd : decode c.code pc = .ok (.arraylength, 1)) (hq : pc + 1 = q) (K : Go p e below P T (mkF m q Ls (.int n :: st))) : Go p e below P T (mkF m pc Ls (.ref a :: st)) := by
  subst hq
  obtain ⟨cl, A, e1, S, nz, H, G⟩ := F
  exact K.back fun t j => X.arraylength hx (by rw [eT]; exact A.1) (State.isArrayOf_alike hZ.alike A.2.1) (g := mkF m pc Ls (.ref a :: st)) rfl rfl hd t (by rw [len_of S nz]; exact j)
theorem go_newP {aty : ArrayType} {ty : FieldType} {n : Int32} {cap : Nat} {vs : List Value} {dv : Value} (X : Stand p l e R s m args below meth c T locs cells slots) (hx : p.tables.exec = Jvm.exec) (hZ : Z.Warmed39 s.vm) (hty : newarray.typeOf aty = ty) (w : (Cond.arrayClass ty).before a0 Z = true) (eT : T.heap = h) (hd : decode c.code pc = .ok (.newarray aty, 2)) (hn : ¬ n < 0) (hcap : n.toNatClampNeg ≤ cap) (hb : cap * 8 ≤ 536870912) (hc : cells + 1 ≤ R.cells) (hl : slots + cap ≤ R.slots) (hdv : defaultValue ty = dv) (hvs : List.replicate cap dv = vs) (hq : pc + 2 = q)
    (K : ∀ T' h' a k, a = h.size → Stand p l e R s m args below meth c T' locs (cells + 1) (slots + cap) → T'.heap = h' → Ext h h' → Arv Z h' a k ty n vs dv → Go p e below P T' (mkF m q Ls (.ref a :: st))) : Go p e below P T (mkF m pc Ls (.int n :: st)) := by
  subst hq hty hdv hvs
  obtain ⟨T', h', cA, X', e', E, A, k⟩ := newP X hx hZ w eT (g := mkF m pc Ls (.int n :: st)) rfl hd rfl hn hcap hb hc hl
  exact (K T' h' _ cA rfl X' e' E ((Arv.new A hn).pad (pad_rep [] _ cap))).back k
theorem go_iaload {a : Addr} {k : ClassId} {n j : Int32} {vs : List Value} {dv v : Value} (X : Stand p l e R s m args below meth c T locs cells slots) (hx : p.tables.exec = Jvm.exec) (hZ : Z.Warmed39 s.vm) (eT : T.heap = h) (F : Arv Z h a k .int n vs dv) (hj : ¬ j < 0 ∧ j < n) (hv : vs.getD j.toNatClampNeg dv = v) (hd : decode c.code pc = .ok (.iaload, 1)) (hq : pc + 1 = q) (K : Go p e below P T (mkF m q Ls (v :: st))) : Go p e below P T (mkF m pc Ls (.int j :: .ref a :: st)) := by
  subst hq
  obtain ⟨cl, A, e1, S, nz, H, G⟩ := F
  exact K.back fun t i => X.iaload hx (by rw [eT]; exact A.1) (State.isArrayOf_alike hZ.alike A.2.1) A.2.2 (inb_of S hj) (H.at (inb_of S hj) hv) (g := mkF m pc Ls (.int j :: .ref a :: st)) rfl rfl hd t i
theorem go_caload {a : Addr} {k : ClassId} {n j : Int32} {vs : List Value} {dv v : Value} (X : Stand p l e R s m args below meth c T locs cells slots) (hx : p.tables.exec = Jvm.exec) (hZ : Z.Warmed39 s.vm) (eT : T.heap = h) (F : Arv Z h a k .char n vs dv) (hj : ¬ j < 0 ∧ j < n) (hv : vs.getD j.toNatClampNeg dv = v) (hd : decode c.code pc = .ok (.caload, 1)) (hq : pc + 1 = q) (K : Go p e below P T (mkF m q Ls (v :: st))) : Go p e below P T (mkF m pc Ls (.int j :: .ref a :: st)) := by
  subst hq
  obtain ⟨cl, A, e1, S, nz, H, G⟩ := F
  exact K.back fun t i => X.caload hx (by rw [eT]; exact A.1) (State.isArrayOf_alike hZ.alike A.2.1) A.2.2 (inb_of S hj) (H.at (inb_of S hj) hv) (g := mkF m pc Ls (.int j :: .ref a :: st)) rfl rfl hd t i
theorem go_baload {a : Addr} {k : ClassId} {n j : Int32} {vs : List Value} {dv v : Value} (X : Stand p l e R s m args below meth c T locs cells slots) (hx : p.tables.exec = Jvm.exec) (hZ : Z.Warmed39 s.vm) (eT : T.heap = h) (F : Arv Z h a k .byte n vs dv) (hj : ¬ j < 0 ∧ j < n) (hv : vs.getD j.toNatClampNeg dv = v) (hd : decode c.code pc = .ok (.baload, 1)) (hq : pc + 1 = q) (K : Go p e below P T (mkF m q Ls (v :: st))) : Go p e below P T (mkF m pc Ls (.int j :: .ref a :: st)) := by
  subst hq
  obtain ⟨cl, A, e1, S, nz, H, G⟩ := F
  exact K.back fun t i => X.baloadBytes hx (by rw [eT]; exact A.1) (State.isArrayOf_alike hZ.alike A.2.1) A.2.2 (inb_of S hj) (H.at (inb_of S hj) hv) (g := mkF m pc Ls (.int j :: .ref a :: st)) rfl rfl hd t i
theorem go_daload {a : Addr} {k : ClassId} {n j : Int32} {vs : List Value} {dv v : Value} (X : Stand p l e R s m args below meth c T locs cells slots) (hx : p.tables.exec = Jvm.exec) (hZ : Z.Warmed39 s.vm) (eT : T.heap = h) (F : Arv Z h a k .double n vs dv) (hj : ¬ j < 0 ∧ j < n) (hv : vs.getD j.toNatClampNeg dv = v) (hd : decode c.code pc = .ok (.daload, 1)) (hq : pc + 1 = q) (K : Go p e below P T (mkF m q Ls (v :: st))) : Go p e below P T (mkF m pc Ls (.int j :: .ref a :: st)) := by
  subst hq
  obtain ⟨cl, A, e1, S, nz, H, G⟩ := F
  exact K.back fun t i => X.daload hx (by rw [eT]; exact A.1) (State.isArrayOf_alike hZ.alike A.2.1) A.2.2 (inb_of S hj) (H.at (inb_of S hj) hv) (g := mkF m pc Ls (.int j :: .ref a :: st)) rfl rfl hd t i
theorem go_aaload {a : Addr} {k : ClassId} {ty : FieldType} {n j : Int32} {vs : List Value} {dv v : Value} (X : Stand p l e R s m args below meth c T locs cells slots) (hx : p.tables.exec = Jvm.exec) (hZ : Z.Warmed39 s.vm) (eT : T.heap = h) (F : Arv Z h a k ty n vs dv) (hty : ty.isReference = true) (hj : ¬ j < 0 ∧ j < n) (hv : vs.getD j.toNatClampNeg dv = v) (hd : decode c.code pc = .ok (.aaload, 1)) (hq : pc + 1 = q) (K : Go p e below P T (mkF m q Ls (v :: st))) : Go p e below P T (mkF m pc Ls (.int j :: .ref a :: st)) := by
  subst hq
  obtain ⟨cl, A, e1, S, nz, H, G⟩ := F
  exact K.back fun t i => X.aaload hx (by rw [eT]; exact A.1) (State.isArrayOf_alike hZ.alike A.2.1) hty A.2.2 (inb_of S hj) (H.at (inb_of S hj) hv) (g := mkF m pc Ls (.int j :: .ref a :: st)) rfl rfl hd t i
theorem go_castore {a : Addr} {k : ClassId} {n j x x' : Int32} {i : Nat} {vs vs' : List Value} {dv : Value} (X : Stand p l e R s m args below meth c T locs cells slots) (hx : p.tables.exec = Jvm.exec) (hZ : Z.Warmed39 s.vm) (eT : T.heap = h) (F : Arv Z h a k .char n vs dv) (hj : ¬ j < 0 ∧ j < n) (hi : j.toNatClampNeg = i) (hl : i < vs.length) (hn : nar .char x = x') (hvs : vs.set i (.int x') = vs') (hd : decode c.code pc = .ok (.castore, 1)) (hq : pc + 1 = q)
    (K : ∀ T' h', Stand p l e R s m args below meth c T' (locs ++ [⟨a, j.toNatClampNeg⟩]) cells slots → T'.heap = h' → Wr h h' a j.toNatClampNeg (.int x') → Arv Z h' a k .char n vs' dv → Go p e below P T' (mkF m q Ls st)) : Go p e below P T (mkF m pc Ls (.int x :: .int j :: .ref a :: st)) := by
  subst hq hn hvs
  obtain ⟨cl, A, e1, S, nz, H, G⟩ := F
  obtain ⟨T', h', X', e', W, k⟩ := stC X hx hZ eT A (inb_of S hj) (g := mkF m pc Ls (.int x :: .int j :: .ref a :: st)) rfl rfl hd
  exact (K T' h' X' e' W (Arv.set A e1 S nz H G (fits_nar_char _) W i hi hl)).back k
theorem go_bastore {a : Addr} {k : ClassId} {n j x x' : Int32} {i : Nat} {vs vs' : List Value} {dv : Value} (X : Stand p l e R s m args below meth c T locs cells slots) (hx : p.tables.exec = Jvm.exec) (hZ : Z.Warmed39 s.vm) (eT : T.heap = h) (F : Arv Z h a k .byte n vs dv) (hj : ¬ j < 0 ∧ j < n) (hi : j.toNatClampNeg = i) (hl : i < vs.length) (hn : nar .byte x = x') (hvs : vs.set i (.int x') = vs') (hd : decode c.code pc = .ok (.bastore, 1)) (hq : pc + 1 = q)
    (K : ∀ T' h', Stand p l e R s m args below meth c T' (locs ++ [⟨a, j.toNatClampNeg⟩]) cells slots → T'.heap = h' → Wr h h' a j.toNatClampNeg (.int x') → Arv Z h' a k .byte n vs' dv → Go p e below P T' (mkF m q Ls st)) : Go p e below P T (mkF m pc Ls (.int x :: .int j :: .ref a :: st)) := by
  subst hq hn hvs
  obtain ⟨cl, A, e1, S, nz, H, G⟩ := F
  obtain ⟨T', h', X', e', W, k⟩ := stB X hx hZ eT A (inb_of S hj) (g := mkF m pc Ls (.int x :: .int j :: .ref a :: st)) rfl rfl hd
  exact (K T' h' X' e' W (Arv.set A e1 S nz H G (fits_nar_byte _) W i hi hl)).back k
theorem go_dastore {a : Addr} {k : ClassId} {n j : Int32} {x : UInt64} {i : Nat} {vs vs' : List Value} {dv : Value} (X : Stand p l e R s m args below meth c T locs cells slots) (hx : p.tables.exec = Jvm.exec) (hZ : Z.Warmed39 s.vm) (eT : T.heap = h) (F : Arv Z h a k .double n vs dv) (hj : ¬ j < 0 ∧ j < n) (hi : j.toNatClampNeg = i) (hl : i < vs.length) (hvs : vs.set i (.double x) = vs') (hd : decode c.code pc = .ok (.dastore, 1)) (hq : pc + 1 = q)
    (K : ∀ T' h', Stand p l e R s m args below meth c T' (locs ++ [⟨a, j.toNatClampNeg⟩]) cells slots → T'.heap = h' → Wr h h' a j.toNatClampNeg (.double x) → Arv Z h' a k .double n vs' dv → Go p e below P T' (mkF m q Ls st)) : Go p e below P T (mkF m pc Ls (.double x :: .int j :: .ref a :: st)) := by
  subst hq hvs
  obtain ⟨cl, A, e1, S, nz, H, G⟩ := F
  obtain ⟨T', h', X', e', W, k⟩ := stD X hx hZ eT A (inb_of S hj) (g := mkF m pc Ls (.double x :: .int j :: .ref a :: st)) rfl rfl hd
  exact (K T' h' X' e' W (Arv.set A e1 S nz H G rfl W i hi hl)).back k
variable {y z : MethodName} {bytes : ByteArray} {maxL : Nat} {ret : Option FieldType} {rm : Room} {as' : Array Value} {Qc : Option Value → Heap → List Loc → Prop} {own CL : String} {index W : Nat}
theorem Con.pays {len : Nat} (M : Con l Z y bytes maxL ret rm as' h Qc) (hZ : Z.Warmed39 s.vm) (wc : (Cond.code y bytes maxL ret).before a0 Z = true) (wz : (Cond.initialized y.cls).before a0 Z = true) (hf : rm.frames + 1 ≤ R.frames) (hl : W + (maxL + 11) + rm.locals ≤ R.locals) :
    Back l R p e below s args y len W (fun A a => a = as' ∧ A.U.heap = h ∧ A.cells + rm.cells ≤ R.cells ∧ A.slots + rm.slots ≤ R.slots)
      (fun A _ v B => ∃ L, Qc v B.U.heap L ∧ B.locs = A.locs ++ L ∧ B.cells = A.cells + rm.cells ∧ B.slots = A.slots + rm.slots) := backOf (M []) hZ wc wz hf hl
theorem go_static (X : Stand p l e R s m args below meth c T locs cells slots) (hx : p.tables.exec = Jvm.exec) (hZ : Z.Warmed39 s.vm) (hown : s.vm.findClass own = some m.cls) (w1 : (Cond.methodLink own index y).before a0 Z = true) (w2 : (Cond.static y).before a0 Z = true) (wz : (Cond.initialized y.cls).before a0 Z = true) (wc : (Cond.code y bytes maxL ret).before a0 Z = true) (hy : y.cls ≠ "java/lang/invoke/MethodHandle" ∧ y.cls ≠ "java/lang/invoke/VarHandle")
    (eT : T.heap = h) (M : Con l Z y bytes maxL ret rm as' h Qc) (has : argsL.toArray = as') (hlen : ∀ sig, parseMethodDescriptor y.desc = some sig → argsL.length = sig.parameters.length) (hst : stk = argsL.reverse ++ rest) (hml : Ls.size = c.maxLocals) (hW : (rest.map fun v => v.category).sum ≤ W) (hd : decode c.code pc = .ok (.invokestatic index, 3)) (hf : rm.frames + 1 ≤ R.frames) (hl : W + (maxL + 11) + rm.locals ≤ R.locals) (hc : cells + rm.cells ≤ R.cells) (hs : slots + rm.slots ≤ R.slots) (hq : pc + 3 = q)
    (K : ∀ T' h' v L, Stand p l e R s m args below meth c T' (locs ++ L) (cells + rm.cells) (slots + rm.slots) → T'.heap = h' → Qc v h' L → Go p e below P T' (mkF m q Ls (v.toList ++ rest))) : Go p e below P T (mkF m pc Ls stk) := by
  subst hq
  obtain ⟨v, _, ⟨T', L', k', n'⟩, -, X', ⟨L, hQ, e1, e2, e3⟩, k⟩ := Jvm.LawKit.callS X hx (y := y) hown (mvT hZ w1) (mvT hZ w2) (mvT hZ wz) (mvT hZ wc) hy (M.pays (W := W) hZ wc wz hf hl) (g := mkF m pc Ls stk) rfl hml (argsL := argsL) (rest := rest) hlen hst (by show 2 * 0 + _ ≤ _; omega) hd (fun _ _ => ⟨has, eT, hc, hs⟩)
  dsimp only [Pt.U, Pt.locs, Pt.cells, Pt.slots] at X' e1 e2 e3 k hQ
  subst e1 e2 e3
  exact (K T' _ v L X' rfl hQ).back k
theorem go_special {a : Addr} (X : Stand p l e R s m args below meth c T locs cells slots) (hx : p.tables.exec = Jvm.exec) (hZ : Z.Warmed39 s.vm) (hown : s.vm.findClass own = some m.cls) (hy1 : y.name = "<init>") (w1 : (Cond.methodLink own index y).before a0 Z = true) (w2 : (Cond.instanceMethod y).before a0 Z = true) (wz : (Cond.initialized y.cls).before a0 Z = true) (wc : (Cond.code y bytes maxL none).before a0 Z = true) (hy : y.cls ≠ "java/lang/invoke/MethodHandle" ∧ y.cls ≠ "java/lang/invoke/VarHandle")
    (eT : T.heap = h) (M : Con l Z y bytes maxL none rm as' h Qc) (has : (.ref a :: argsL).toArray = as') (hlen : ∀ sig, parseMethodDescriptor y.desc = some sig → argsL.length = sig.parameters.length) (hst : stk = argsL.reverse ++ .ref a :: rest) (hml : Ls.size = c.maxLocals) (hW : (rest.map fun v => v.category).sum ≤ W) (hd : decode c.code pc = .ok (.invokespecial index, 3)) (hf : rm.frames + 1 ≤ R.frames) (hl : W + (maxL + 11) + rm.locals ≤ R.locals) (hc : cells + rm.cells ≤ R.cells) (hs : slots + rm.slots ≤ R.slots) (hq : pc + 3 = q)
    (K : ∀ T' h' v L, Stand p l e R s m args below meth c T' (locs ++ L) (cells + rm.cells) (slots + rm.slots) → T'.heap = h' → Qc v h' L → Go p e below P T' (mkF m q Ls (v.toList ++ rest))) : Go p e below P T (mkF m pc Ls stk) := by
  subst hq
  obtain ⟨v, _, ⟨T', L', k', n'⟩, -, X', ⟨L, hQ, e1, e2, e3⟩, k⟩ := X.specialBack hx (y := y) hy1 hown (mvT hZ w1) (mvT hZ w2) (mvT hZ wc) hy (M.pays (W := W) hZ wc wz hf hl) (g := mkF m pc Ls stk) rfl hml (Steps.refl _) (a := a) (argsL := argsL) (rest := rest) hlen hst (by show 2 * 0 + _ ≤ _; omega) hd (fun _ _ => ⟨has, eT, hc, hs⟩)
  dsimp only [Pt.U, Pt.locs, Pt.cells, Pt.slots] at X' e1 e2 e3 k hQ
  subst e1 e2 e3
  exact (K T' _ v L X' rfl hQ).back fun _ j => k.trans j
theorem go_virtual {a : Addr} (X : Stand p l e R s m args below meth c T locs cells slots) (hx : p.tables.exec = Jvm.exec) (hZ : Z.Warmed39 s.vm) (hown : s.vm.findClass own = some m.cls) (w1 : (Cond.methodLink own index y).before a0 Z = true) (w2 : (Cond.declares y).before a0 Z = true) (hnf : NotFace s y) (w3 : (Cond.selects CL y z).before a0 Z = true) (w4 : (Cond.instanceMethod z).before a0 Z = true) (wz : (Cond.initialized z.cls).before a0 Z = true) (wc : (Cond.code z bytes maxL ret).before a0 Z = true) (hy : y.cls ≠ "java/lang/invoke/MethodHandle" ∧ y.cls ≠ "java/lang/invoke/VarHandle")
    (eT : T.heap = h) (E : Exa Z h a CL) (M : Con l Z z bytes maxL ret rm as' h Qc) (has : (.ref a :: argsL).toArray = as') (hlen : ∀ sig, parseMethodDescriptor y.desc = some sig → argsL.length = sig.parameters.length) (hst : stk = argsL.reverse ++ .ref a :: rest) (hml : Ls.size = c.maxLocals) (hW : (rest.map fun v => v.category).sum ≤ W) (hd : decode c.code pc = .ok (.invokevirtual index, 3)) (hf : rm.frames + 1 ≤ R.frames) (hl : W + (maxL + 11) + rm.locals ≤ R.locals) (hc : cells + rm.cells ≤ R.cells) (hs : slots + rm.slots ≤ R.slots) (hq : pc + 3 = q)
    (K : ∀ T' h' v L, Stand p l e R s m args below meth c T' (locs ++ L) (cells + rm.cells) (slots + rm.slots) → T'.heap = h' → Qc v h' L → Go p e below P T' (mkF m q Ls (v.toList ++ rest))) : Go p e below P T (mkF m pc Ls stk) := by
  subst hq
  obtain ⟨cq, kq, qa, qb, qc⟩ := isOf hZ eT E
  obtain ⟨v, _, ⟨T', L', k', n'⟩, -, X', ⟨L, hQ, e1, e2, e3⟩, k⟩ := X.virtualBack hx (y := y) (z := z) hown (mvT hZ w1) (mvT hZ w2) hnf (mvT hZ w3) (mvT hZ w4) hy (M.pays (W := W) hZ wc wz hf hl) qa qc (g := mkF m pc Ls stk) rfl hml (Steps.refl _) (argsL := argsL) (rest := rest) hlen hst (by show 2 * 0 + _ ≤ _; omega) hd (fun _ _ => ⟨has, eT, hc, hs⟩)
  dsimp only [Pt.U, Pt.locs, Pt.cells, Pt.slots] at X' e1 e2 e3 k hQ
  subst e1 e2 e3
  exact (K T' _ v L X' rfl hQ).back fun _ j => k.trans j
theorem go_iface {a : Addr} {count : Nat} (X : Stand p l e R s m args below meth c T locs cells slots) (hx : p.tables.exec = Jvm.exec) (hZ : Z.Warmed39 s.vm) (hown : s.vm.findClass own = some m.cls) (w1 : (Cond.methodLink own index y).before a0 Z = true) (w2 : (Cond.declares y).before a0 Z = true) (w5 : (Cond.interfaceMethod y.cls y.cls y.name y.desc).before args s = true) (w3 : (Cond.selects CL y z).before a0 Z = true) (w4 : (Cond.instanceMethod z).before a0 Z = true) (w6 : (Cond.publicMethod z).before a0 Z = true) (w7 : (Cond.unhidden CL y.name y.desc).before a0 Z = true) (w8 : (Cond.castable CL y.cls).before a0 Z = true) (wz : (Cond.initialized z.cls).before a0 Z = true) (wc : (Cond.code z bytes maxL ret).before a0 Z = true) (hy : y.cls ≠ "java/lang/invoke/MethodHandle" ∧ y.cls ≠ "java/lang/invoke/VarHandle")
    (eT : T.heap = h) (E : Exa Z h a CL) (M : Con l Z z bytes maxL ret rm as' h Qc) (has : (.ref a :: argsL).toArray = as') (hlen : ∀ sig, parseMethodDescriptor y.desc = some sig → argsL.length = sig.parameters.length) (hst : stk = argsL.reverse ++ .ref a :: rest) (hml : Ls.size = c.maxLocals) (hW : (rest.map fun v => v.category).sum ≤ W) (hd : decode c.code pc = .ok (.invokeinterface index count, 5)) (hf : rm.frames + 1 ≤ R.frames) (hl : W + (maxL + 11) + rm.locals ≤ R.locals) (hc : cells + rm.cells ≤ R.cells) (hs : slots + rm.slots ≤ R.slots) (hq : pc + 5 = q)
    (K : ∀ T' h' v L, Stand p l e R s m args below meth c T' (locs ++ L) (cells + rm.cells) (slots + rm.slots) → T'.heap = h' → Qc v h' L → Go p e below P T' (mkF m q Ls (v.toList ++ rest))) : Go p e below P T (mkF m pc Ls stk) := by
  subst hq
  obtain ⟨cq, kq, qa, qb, qc⟩ := isOf hZ eT E
  obtain ⟨v, _, ⟨T', L', k', n'⟩, -, X', ⟨L, hQ, e1, e2, e3⟩, k⟩ := X.interfaceBack hx (xi := y) (y := z) hown (mvT hZ w1) (mvT hZ w2) w5 (mvT hZ w3) (mvT hZ w4) (mvT hZ w6) (mvT hZ w7) (mvT hZ w8) hy (M.pays (W := W) hZ wc wz hf hl) qa qb qc (g := mkF m pc Ls stk) rfl hml (Steps.refl _) (argsL := argsL) (rest := rest) hlen hst (by show 2 * 0 + _ ≤ _; omega) hd (fun _ _ => ⟨has, eT, hc, hs⟩)
  dsimp only [Pt.U, Pt.locs, Pt.cells, Pt.slots] at X' e1 e2 e3 k hQ
  subst e1 e2 e3
  exact (K T' _ v L X' rfl hQ).back fun _ j => k.trans j
end OwnKit
theorem own_b16 (x : Int32) : 1 ≤ ((1 : Int32) + (x &&& (65535 : Int32))).toInt ∧ ((1 : Int32) + (x &&& (65535 : Int32))).toInt ≤ 65536 := by
  have h := Jvm.Kit.i32_mask x 65535 (k := 16) (by decide) (by decide)
  have h1 : (1 : Int32).toInt = 1 := by decide
  rw [Jvm.Kit.i32_add (by omega) (by omega)]; omega
theorem own_b8 (x : Int32) : 1 ≤ ((1 : Int32) + (x &&& (255 : Int32))).toInt ∧ ((1 : Int32) + (x &&& (255 : Int32))).toInt ≤ 256 := by
  have h := Jvm.Kit.i32_mask x 255 (k := 8) (by decide) (by decide)
  have h1 : (1 : Int32).toInt = 1 := by decide
  rw [Jvm.Kit.i32_add (by omega) (by omega)]; omega
theorem own_nn (x : Int32) : ¬ (x &&& (2147483647 : Int32)) < 0 := by
  have h := Jvm.Kit.i32_mask x 2147483647 (k := 31) (by decide) (by decide)
  rw [XT.negI32]; omega
theorem own_cmp64 (x : Int32) : (XT.cmpL ((64 : Int64) * x.toInt64) (x.toInt64 <<< ((6 : Int32).toInt64 &&& 63))) = 0 := by
  have e : x.toInt64 <<< ((6 : Int32).toInt64 &&& 63) = (64 : Int64) * x.toInt64 := by rw [shlmL (m := 64) (by decide), Int64.mul_comm]
  rw [e]; simp [XT.cmpL, Int64.lt_irrefl]
open Jvm.FP.Core in
theorem own_fin {m : Int32} (h1 : 1 ≤ m.toInt) : ∃ (c : Nat) (t : Nat), t ≤ 52 ∧ 2 ^ 52 ≤ c ∧ c < 2 ^ 53 ∧ val64 (FP.i2d m) = .fin false c (-(t : Int)) ∧ (c : Int) = m.toInt * 2 ^ t := by
  have hlt := Int32.toInt_lt m
  obtain ⟨n, hn⟩ : ∃ n : Nat, m.toInt = n := ⟨m.toInt.toNat, by omega⟩
  have n0 : n ≠ 0 := by omega
  have l1 := Nat.log2_self_le n0
  have l2 := Nat.lt_log2_self (n := n)
  have l3 : n.log2 < 53 := (Nat.log2_lt n0).mpr (by omega)
  have e1 : 2 ^ n.log2 * 2 ^ (52 - n.log2) = 2 ^ 52 := by rw [← Nat.pow_add]; congr 1; omega
  have e2 : 2 ^ (n.log2 + 1) * 2 ^ (52 - n.log2) = 2 ^ 53 := by rw [← Nat.pow_add]; congr 1; omega
  refine ⟨n * 2 ^ (52 - n.log2), 52 - n.log2, by omega, ?_, ?_, ?_, ?_⟩
  · rw [← e1]; exact Nat.mul_le_mul_right _ l1
  · rw [← e2]; exact Nat.mul_lt_mul_of_pos_right l2 (Nat.pos_of_neZero _)
  · rw [show FP.i2d m = Jvm.FP.Core.i2d m from rfl, val64_i2d, hn]
    show roundRatio b64 (decide ((n : Int) < 0)) (Int.natAbs n) 1 0 = _
    rw [show decide ((n : Int) < 0) = false by simp, Int.natAbs_natCast]
    refine roundRatio_exact good_b64 (by decide) ?_ ?_
    · refine ⟨?_, ?_, ?_, Or.inr ?_⟩
      · show _ < 2 ^ 53; rw [← e2]; exact Nat.mul_lt_mul_of_pos_right l2 (Nat.pos_of_neZero _)
      · have : b64.qmin = -1074 := by decide
        omega
      · have : b64.qmax = 971 := by decide
        omega
      · have : b64.tails = 2 ^ 52 := by decide
        rw [this, ← e1]; exact Nat.mul_le_mul_right _ l1
    · have a1 : ((0 : Int) - -((52 - n.log2 : Nat) : Int)).toNat = 52 - n.log2 := by omega
      have a2 : (-((52 - n.log2 : Nat) : Int) - 0).toNat = 0 := by omega
      rw [a1, a2]; simp
  · rw [hn]; simp
open Jvm.FP.Core in
theorem own_quo {x y : UInt64} {c t k : Nat} (hc1 : 2 ^ 52 ≤ c) (hc2 : c < 2 ^ 53) (ht : t ≤ 52) (hk : k ≤ 52) (hx : val64 x = .fin false c (-(t : Int))) (hy : val64 y = .fin false (2 ^ 52) (-(k : Int))) : val64 (FP.ddiv x y) = .fin false c (-(t : Int) - 52 + k) := by
  rw [show FP.ddiv x y = Jvm.FP.Core.ddiv x y from rfl, val64_ddiv, hx, hy]
  show (if (2 ^ 52 : Nat) = 0 then (if c = 0 then Datum.nan else Datum.inf (false != false)) else roundRatio b64 (false != false) c (2 ^ 52) (-(t : Int) - -(k : Int))) = _
  rw [if_neg (by decide)]
  refine roundRatio_exact good_b64 (by decide) ?_ ?_
  · have q1 : b64.qmin = -1074 := by decide
    have q2 : b64.qmax = 971 := by decide
    have q3 : b64.tails = 2 ^ 52 := by decide
    exact ⟨hc2, by omega, by omega, Or.inr (by rw [q3]; exact hc1)⟩
  · have a1 : (-(t : Int) - -(k : Int) - (-(t : Int) - 52 + k)).toNat = 52 := by omega
    have a2 : (-(t : Int) - 52 + k - (-(t : Int) - -(k : Int))).toNat = 0 := by omega
    rw [a1, a2]; simp
open Jvm.FP.Core in
theorem own_pos {x : UInt64} {c : Nat} {q : Int} (hc : 0 < c) (hx : val64 x = .fin false c q) : Jvm.Free.Fl.NoNaN64 x ∧ FP.dcmp x 0 = some .gt ∧ FP.dcmp x 9218868437227405312 = some .lt := by
  refine ⟨?_, ?_, ?_⟩
  · rw [Jvm.Free.Fl.noNaN64_no]
    show decide (val64 x = .nan) = false
    rw [hx]; rfl
  · show order (val64 x) (val64 0) = _
    rw [hx, show val64 0 = .fin false 0 b64.qmin by decide +kernel]
    show some (compare (signed false (c * 2 ^ (q - min q b64.qmin).toNat)) (signed false (0 * _))) = _
    have : 0 < c * 2 ^ (q - min q b64.qmin).toNat := Nat.mul_pos hc (Nat.pos_of_neZero _)
    generalize c * 2 ^ (q - min q b64.qmin).toNat = z at *
    simp only [signed, Nat.zero_mul, Bool.false_eq_true, if_false]
    rw [Int.compare_eq_gt.mpr (by omega)]
  · show order (val64 x) (val64 9218868437227405312) = _
    rw [hx, show val64 9218868437227405312 = .inf false by decide +kernel]
    rfl
theorem own_temp {m : Int32} (h : 1 ≤ m.toInt ∧ m.toInt ≤ 65536) : Jvm.Free.Fl.NoNaN64 (FP.ddiv (FP.i2d m) 4625196817309499392) ∧ ¬ (cmpValue (FP.dcmp (FP.ddiv (FP.i2d m) 4625196817309499392) 0) .l) < 0 ∧ (cmpValue (FP.dcmp (FP.ddiv (FP.i2d m) 4625196817309499392) 9218868437227405312) .g) < 0 ∧ ¬ (cmpValue (FP.dcmp (FP.ddiv (FP.i2d m) 4625196817309499392) 0) .l) = 0 := by
  obtain ⟨c, t, ht, hc1, hc2, hv, -⟩ := own_fin h.1
  obtain ⟨q1, q2, q3⟩ := own_pos (by omega) (own_quo (y := 4625196817309499392) (k := 48) hc1 hc2 ht (by decide) hv (by decide +kernel))
  refine ⟨q1, ?_, ?_, ?_⟩
  · rw [q2]; decide
  · rw [q3]; decide
  · rw [q2]; decide
def own_tst1 (m : Nat) : Bool := let r := FP.ddiv (FP.i2d (Int32.ofNat m)) 4643211215818981376; decide (r &&& 0x7fffffffffffffff ≤ 0x7ff0000000000000) && decide (cmpValue (FP.dcmp r 0) .l = 1) && decide (¬ 0 < cmpValue (FP.dcmp r 4607182418800017408) .g)
def own_chk (t : Nat → Bool) : Nat → Nat → Bool
  | 0, lo => t lo
  | d + 1, lo => own_chk t d lo && own_chk t d (lo + 2 ^ d)
theorem own_chk_ok (t : Nat → Bool) : ∀ (d lo : Nat), own_chk t d lo = true → ∀ m, lo ≤ m → m < lo + 2 ^ d → t m = true
  | 0, lo, h, m, h1, h2 => by have : m = lo := by simp at h2; omega
                              subst this; exact h
  | d + 1, lo, h, m, h1, h2 => by
    simp only [own_chk, Bool.and_eq_true] at h
    by_cases q : m < lo + 2 ^ d
    · exact own_chk_ok t d lo h.1 m h1 q
    · exact own_chk_ok t d _ h.2 m (by omega) (by rw [Nat.pow_succ] at h2; omega)
set_option maxRecDepth 65536 in
theorem own_c8 : own_chk own_tst1 8 1 = true := by decide +kernel
theorem own_nat {m : Int32} (h : 1 ≤ m.toInt) : m = Int32.ofNat m.toInt.toNat ∧ 1 ≤ m.toInt.toNat ∧ (m.toInt.toNat : Int) = m.toInt := by
  have e : (m.toInt.toNat : Int) = m.toInt := Int.toNat_of_nonneg (by omega)
  refine ⟨?_, by omega, e⟩
  apply Int32.toInt_inj.mp
  rw [Int32.toInt_ofNat_small (by have := Int32.toInt_lt m; omega), e]
theorem own_topp {m : Int32} (h : 1 ≤ m.toInt ∧ m.toInt ≤ 256) : Jvm.Free.Fl.NoNaN64 (FP.ddiv (FP.i2d m) 4643211215818981376) ∧ 0 < (cmpValue (FP.dcmp (FP.ddiv (FP.i2d m) 4643211215818981376) 0) .l) ∧ ¬ 0 < (cmpValue (FP.dcmp (FP.ddiv (FP.i2d m) 4643211215818981376) 4607182418800017408) .g) := by
  obtain ⟨e, h1, h2⟩ := own_nat h.1
  have q := own_chk_ok _ 8 1 own_c8 m.toInt.toNat h1 (by have := h.2; omega)
  rw [own_tst1, ← e] at q
  simp only [Bool.and_eq_true, decide_eq_true_eq] at q
  obtain ⟨⟨q1, q2⟩, q3⟩ := q
  refine ⟨q1, ?_, q3⟩
  rw [q2]; decide
theorem d1_0 : decode prog_56_method_1_code 0 = .ok (.aload_n 0, 1) := by decide +kernel
theorem d1_1 : decode prog_56_method_1_code 1 = .ok (.invokespecial 1, 3) := by decide +kernel
theorem d1_4 : decode prog_56_method_1_code 4 = .ok (.dload_n 1, 1) := by decide +kernel
theorem d1_5 : decode prog_56_method_1_code 5 = .ok (.dconst 0, 1) := by decide +kernel
theorem d1_6 : decode prog_56_method_1_code 6 = .ok (.dcmp .l, 1) := by decide +kernel
theorem d1_7 : decode prog_56_method_1_code 7 = .ok (.ifCond .lt 11, 3) := by decide +kernel
theorem d1_10 : decode prog_56_method_1_code 10 = .ok (.dload_n 1, 1) := by decide +kernel
theorem d1_11 : decode prog_56_method_1_code 11 = .ok (.ldc2_w 9, 3) := by decide +kernel
theorem d1_14 : decode prog_56_method_1_code 14 = .ok (.dcmp .g, 1) := by decide +kernel
theorem d1_15 : decode prog_56_method_1_code 15 = .ok (.ifCond .lt 17, 3) := by decide +kernel
theorem d1_32 : decode prog_56_method_1_code 32 = .ok (.iload_n 3, 1) := by decide +kernel
theorem d1_33 : decode prog_56_method_1_code 33 = .ok (.ifCond .ge 17, 3) := by decide +kernel
theorem d1_50 : decode prog_56_method_1_code 50 = .ok (.dload 4, 2) := by decide +kernel
theorem d1_52 : decode prog_56_method_1_code 52 = .ok (.dconst 0, 1) := by decide +kernel
theorem d1_53 : decode prog_56_method_1_code 53 = .ok (.dcmp .l, 1) := by decide +kernel
theorem d1_54 : decode prog_56_method_1_code 54 = .ok (.ifCond .le 10, 3) := by decide +kernel
theorem d1_57 : decode prog_56_method_1_code 57 = .ok (.dload 4, 2) := by decide +kernel
theorem d1_59 : decode prog_56_method_1_code 59 = .ok (.dconst 1, 1) := by decide +kernel
theorem d1_60 : decode prog_56_method_1_code 60 = .ok (.dcmp .g, 1) := by decide +kernel
theorem d1_61 : decode prog_56_method_1_code 61 = .ok (.ifCond .le 18, 3) := by decide +kernel
theorem d1_79 : decode prog_56_method_1_code 79 = .ok (.aload_n 0, 1) := by decide +kernel
theorem d1_80 : decode prog_56_method_1_code 80 = .ok (.dload_n 1, 1) := by decide +kernel
theorem d1_81 : decode prog_56_method_1_code 81 = .ok (.putfield 24, 3) := by decide +kernel
theorem d1_84 : decode prog_56_method_1_code 84 = .ok (.aload_n 0, 1) := by decide +kernel
theorem d1_85 : decode prog_56_method_1_code 85 = .ok (.iload_n 3, 1) := by decide +kernel
theorem d1_86 : decode prog_56_method_1_code 86 = .ok (.putfield 30, 3) := by decide +kernel
theorem d1_89 : decode prog_56_method_1_code 89 = .ok (.aload_n 0, 1) := by decide +kernel
theorem d1_90 : decode prog_56_method_1_code 90 = .ok (.dload 4, 2) := by decide +kernel
theorem d1_92 : decode prog_56_method_1_code 92 = .ok (.putfield 34, 3) := by decide +kernel
theorem d1_95 : decode prog_56_method_1_code 95 = .ok (.return_, 1) := by decide +kernel
theorem d2_0 : decode jdk_30_method_1_code 0 = .ok (.aload_n 0, 1) := by decide +kernel
theorem d2_1 : decode jdk_30_method_1_code 1 = .ok (.invokespecial 1, 3) := by decide +kernel
theorem d2_4 : decode jdk_30_method_1_code 4 = .ok (.return_, 1) := by decide +kernel
theorem d4_0 : decode prog_56_method_4_code 0 = .ok (.aload_n 0, 1) := by decide +kernel
theorem d4_1 : decode prog_56_method_4_code 1 = .ok (.getfield 24, 3) := by decide +kernel
theorem d4_4 : decode prog_56_method_4_code 4 = .ok (.dconst 0, 1) := by decide +kernel
theorem d4_5 : decode prog_56_method_4_code 5 = .ok (.dcmp .l, 1) := by decide +kernel
theorem d4_6 : decode prog_56_method_4_code 6 = .ok (.ifCond .ne 7, 3) := by decide +kernel
theorem d4_9 : decode prog_56_method_4_code 9 = .ok (.lconst 0, 1) := by decide +kernel
theorem d4_10 : decode prog_56_method_4_code 10 = .ok (.goto 9, 3) := by decide +kernel
theorem d4_13 : decode prog_56_method_4_code 13 = .ok (.ldc2_w 105, 3) := by decide +kernel
theorem d4_16 : decode prog_56_method_4_code 16 = .ok (.iload_n 1, 1) := by decide +kernel
theorem d4_17 : decode prog_56_method_4_code 17 = .ok (.i2l, 1) := by decide +kernel
theorem d4_18 : decode prog_56_method_4_code 18 = .ok (.lmul, 1) := by decide +kernel
theorem d4_19 : decode prog_56_method_4_code 19 = .ok (.lreturn, 1) := by decide +kernel
theorem pn_0 : plainName "java/lang/Record" = true := by first | (simp [plainName, overriddenIn]; done) | decide +kernel
theorem pn_1 : plainName "com/example/causeway/causeway/model/Sampler" = true := by first | (simp [plainName, overriddenIn]; done) | decide +kernel
theorem pn_2 : plainName "com/example/causeway/causeway/model/SamplerHeapBytesPinLaw" = true := by first | (simp [plainName, overriddenIn]; done) | decide +kernel
theorem pd_0 : parseMethodDescriptor "()V" = some ⟨[], none⟩ := by decide +kernel
theorem pd_1 : parseMethodDescriptor "(DID)V" = some ⟨[.double, .int, .double], none⟩ := by decide +kernel
theorem pd_2 : parseMethodDescriptor "(I)J" = some ⟨[.int], some .long⟩ := by decide +kernel
theorem w0 {Z : State} {a0 : Array Value} (hw : ∀ d ∈ tables_1, d.before a0 Z = true) : (Jvm.Cond.constant "com/example/causeway/causeway/model/SamplerHeapBytesPinLaw" (12 : Nat) (2147483647 : Int32)).before a0 Z = true := hw _ (List.mem_of_getElem? (i := 0) rfl)
theorem w1 {Z : State} {a0 : Array Value} (hw : ∀ d ∈ tables_1, d.before a0 Z = true) : (Jvm.Cond.constantDouble "com/example/causeway/causeway/model/SamplerHeapBytesPinLaw" (13 : Nat) (4643211215818981376 : UInt64)).before a0 Z = true := hw _ (List.mem_of_getElem? (i := 1) rfl)
theorem w2 {Z : State} {a0 : Array Value} (hw : ∀ d ∈ tables_1, d.before a0 Z = true) : (Jvm.Cond.classLink "com/example/causeway/causeway/model/SamplerHeapBytesPinLaw" (15 : Nat) "com/example/causeway/causeway/model/Sampler").before a0 Z = true := hw _ (List.mem_of_getElem? (i := 2) rfl)
theorem w3 {Z : State} {a0 : Array Value} (hw : ∀ d ∈ tables_1, d.before a0 Z = true) : (Jvm.Cond.instantiable "com/example/causeway/causeway/model/Sampler" (3 : Nat)).before a0 Z = true := hw _ (List.mem_of_getElem? (i := 3) rfl)
theorem w4 {Z : State} {a0 : Array Value} (hw : ∀ d ∈ tables_1, d.before a0 Z = true) : (Jvm.Cond.initialized "com/example/causeway/causeway/model/Sampler").before a0 Z = true := hw _ (List.mem_of_getElem? (i := 4) rfl)
theorem w5 {Z : State} {a0 : Array Value} (hw : ∀ d ∈ tables_1, d.before a0 Z = true) : (Jvm.Cond.methodLink "com/example/causeway/causeway/model/SamplerHeapBytesPinLaw" (17 : Nat) ({ cls := "com/example/causeway/causeway/model/Sampler", name := "<init>", desc := "(DID)V" } : Jvm.MethodName)).before a0 Z = true := hw _ (List.mem_of_getElem? (i := 5) rfl)
theorem w6 {Z : State} {a0 : Array Value} (hw : ∀ d ∈ tables_1, d.before a0 Z = true) : (Jvm.Cond.instanceMethod ({ cls := "com/example/causeway/causeway/model/Sampler", name := "<init>", desc := "(DID)V" } : Jvm.MethodName)).before a0 Z = true := hw _ (List.mem_of_getElem? (i := 6) rfl)
theorem w7 {Z : State} {a0 : Array Value} (hw : ∀ d ∈ tables_1, d.before a0 Z = true) : (Jvm.Cond.code ({ cls := "com/example/causeway/causeway/model/Sampler", name := "<init>", desc := "(DID)V" } : Jvm.MethodName) prog_56_method_1_code (6 : Nat) (Option.none : Option Jvm.ClassFile.FieldType)).before a0 Z = true := hw _ (List.mem_of_getElem? (i := 7) rfl)
theorem w8 {Z : State} {a0 : Array Value} (hw : ∀ d ∈ tables_1, d.before a0 Z = true) : (Jvm.Cond.methodLink "com/example/causeway/causeway/model/Sampler" (1 : Nat) ({ cls := "java/lang/Record", name := "<init>", desc := "()V" } : Jvm.MethodName)).before a0 Z = true := hw _ (List.mem_of_getElem? (i := 8) rfl)
theorem w9 {Z : State} {a0 : Array Value} (hw : ∀ d ∈ tables_1, d.before a0 Z = true) : (Jvm.Cond.instanceMethod ({ cls := "java/lang/Record", name := "<init>", desc := "()V" } : Jvm.MethodName)).before a0 Z = true := hw _ (List.mem_of_getElem? (i := 9) rfl)
theorem w11 {Z : State} {a0 : Array Value} (hw : ∀ d ∈ tables_1, d.before a0 Z = true) : (Jvm.Cond.initialized "java/lang/Record").before a0 Z = true := hw _ (List.mem_of_getElem? (i := 11) rfl)
theorem w12 {Z : State} {a0 : Array Value} (hw : ∀ d ∈ tables_1, d.before a0 Z = true) : (Jvm.Cond.code ({ cls := "java/lang/Record", name := "<init>", desc := "()V" } : Jvm.MethodName) jdk_30_method_1_code (1 : Nat) (Option.none : Option Jvm.ClassFile.FieldType)).before a0 Z = true := hw _ (List.mem_of_getElem? (i := 12) rfl)
theorem w13 {Z : State} {a0 : Array Value} (hw : ∀ d ∈ tables_1, d.before a0 Z = true) : (Jvm.Cond.methodLink "java/lang/Record" (1 : Nat) ({ cls := "java/lang/Object", name := "<init>", desc := "()V" } : Jvm.MethodName)).before a0 Z = true := hw _ (List.mem_of_getElem? (i := 13) rfl)
theorem w14 {Z : State} {a0 : Array Value} (hw : ∀ d ∈ tables_1, d.before a0 Z = true) : (Jvm.Cond.instanceMethod ({ cls := "java/lang/Object", name := "<init>", desc := "()V" } : Jvm.MethodName)).before a0 Z = true := hw _ (List.mem_of_getElem? (i := 14) rfl)
theorem w15 {Z : State} {a0 : Array Value} (hw : ∀ d ∈ tables_1, d.before a0 Z = true) : (Jvm.Cond.code ({ cls := "java/lang/Object", name := "<init>", desc := "()V" } : Jvm.MethodName) object_method_1_code (1 : Nat) (Option.none : Option Jvm.ClassFile.FieldType)).before a0 Z = true := hw _ (List.mem_of_getElem? (i := 15) rfl)
theorem w16 {Z : State} {a0 : Array Value} (hw : ∀ d ∈ tables_1, d.before a0 Z = true) : (Jvm.Cond.constantDouble "com/example/causeway/causeway/model/Sampler" (9 : Nat) (9218868437227405312 : UInt64)).before a0 Z = true := hw _ (List.mem_of_getElem? (i := 16) rfl)
theorem w17 {Z : State} {a0 : Array Value} (hw : ∀ d ∈ tables_1, d.before a0 Z = true) : (Jvm.Cond.fieldLink "com/example/causeway/causeway/model/Sampler" (24 : Nat) "com/example/causeway/causeway/model/Sampler" "temperature" "D").before a0 Z = true := hw _ (List.mem_of_getElem? (i := 17) rfl)
theorem w18 {Z : State} {a0 : Array Value} (hw : ∀ d ∈ tables_1, d.before a0 Z = true) : (Jvm.Cond.laysFinal "com/example/causeway/causeway/model/Sampler" "com/example/causeway/causeway/model/Sampler" "temperature" "D").before a0 Z = true := hw _ (List.mem_of_getElem? (i := 18) rfl)
theorem w19 {Z : State} {a0 : Array Value} (hw : ∀ d ∈ tables_1, d.before a0 Z = true) : (Jvm.Cond.fieldLink "com/example/causeway/causeway/model/Sampler" (30 : Nat) "com/example/causeway/causeway/model/Sampler" "topK" "I").before a0 Z = true := hw _ (List.mem_of_getElem? (i := 19) rfl)
theorem w20 {Z : State} {a0 : Array Value} (hw : ∀ d ∈ tables_1, d.before a0 Z = true) : (Jvm.Cond.laysFinal "com/example/causeway/causeway/model/Sampler" "com/example/causeway/causeway/model/Sampler" "topK" "I").before a0 Z = true := hw _ (List.mem_of_getElem? (i := 20) rfl)
theorem w21 {Z : State} {a0 : Array Value} (hw : ∀ d ∈ tables_1, d.before a0 Z = true) : (Jvm.Cond.fieldLink "com/example/causeway/causeway/model/Sampler" (34 : Nat) "com/example/causeway/causeway/model/Sampler" "topP" "D").before a0 Z = true := hw _ (List.mem_of_getElem? (i := 21) rfl)
theorem w22 {Z : State} {a0 : Array Value} (hw : ∀ d ∈ tables_1, d.before a0 Z = true) : (Jvm.Cond.laysFinal "com/example/causeway/causeway/model/Sampler" "com/example/causeway/causeway/model/Sampler" "topP" "D").before a0 Z = true := hw _ (List.mem_of_getElem? (i := 22) rfl)
theorem w23 {Z : State} {a0 : Array Value} (hw : ∀ d ∈ tables_1, d.before a0 Z = true) : (Jvm.Cond.methodLink "com/example/causeway/causeway/model/SamplerHeapBytesPinLaw" (20 : Nat) ({ cls := "com/example/causeway/causeway/model/Sampler", name := "heapBytes", desc := "(I)J" } : Jvm.MethodName)).before a0 Z = true := hw _ (List.mem_of_getElem? (i := 23) rfl)
theorem w24 {Z : State} {a0 : Array Value} (hw : ∀ d ∈ tables_1, d.before a0 Z = true) : (Jvm.Cond.declares ({ cls := "com/example/causeway/causeway/model/Sampler", name := "heapBytes", desc := "(I)J" } : Jvm.MethodName)).before a0 Z = true := hw _ (List.mem_of_getElem? (i := 24) rfl)
theorem w25 {Z : State} {a0 : Array Value} (hw : ∀ d ∈ tables_1, d.before a0 Z = true) : (Jvm.Cond.instanceMethod ({ cls := "com/example/causeway/causeway/model/Sampler", name := "heapBytes", desc := "(I)J" } : Jvm.MethodName)).before a0 Z = true := hw _ (List.mem_of_getElem? (i := 25) rfl)
theorem w26 {Z : State} {a0 : Array Value} (hw : ∀ d ∈ tables_1, d.before a0 Z = true) : (Jvm.Cond.selects "com/example/causeway/causeway/model/Sampler" ({ cls := "com/example/causeway/causeway/model/Sampler", name := "heapBytes", desc := "(I)J" } : Jvm.MethodName) ({ cls := "com/example/causeway/causeway/model/Sampler", name := "heapBytes", desc := "(I)J" } : Jvm.MethodName)).before a0 Z = true := hw _ (List.mem_of_getElem? (i := 26) rfl)
theorem w27 {Z : State} {a0 : Array Value} (hw : ∀ d ∈ tables_1, d.before a0 Z = true) : (Jvm.Cond.code ({ cls := "com/example/causeway/causeway/model/Sampler", name := "heapBytes", desc := "(I)J" } : Jvm.MethodName) prog_56_method_4_code (2 : Nat) (Option.some Jvm.ClassFile.FieldType.long)).before a0 Z = true := hw _ (List.mem_of_getElem? (i := 27) rfl)
theorem w28 {Z : State} {a0 : Array Value} (hw : ∀ d ∈ tables_1, d.before a0 Z = true) : (Jvm.Cond.constant "com/example/causeway/causeway/model/SamplerHeapBytesPinLaw" (9 : Nat) (65535 : Int32)).before a0 Z = true := hw _ (List.mem_of_getElem? (i := 28) rfl)
theorem w29 {Z : State} {a0 : Array Value} (hw : ∀ d ∈ tables_1, d.before a0 Z = true) : (Jvm.Cond.constantDouble "com/example/causeway/causeway/model/SamplerHeapBytesPinLaw" (10 : Nat) (4625196817309499392 : UInt64)).before a0 Z = true := hw _ (List.mem_of_getElem? (i := 29) rfl)
theorem w30 {Z : State} {a0 : Array Value} (hw : ∀ d ∈ tables_1, d.before a0 Z = true) : (Jvm.Cond.constantLong "com/example/causeway/causeway/model/Sampler" (105 : Nat) (64 : Int64)).before a0 Z = true := hw _ (List.mem_of_getElem? (i := 30) rfl)
theorem w31 {Z : State} {a0 : Array Value} (hw : ∀ d ∈ tables_1, d.before a0 Z = true) : (Jvm.Cond.constantDouble "com/example/causeway/causeway/model/SamplerHeapBytesPinLaw" (7 : Nat) (9223372036854775808 : UInt64)).before a0 Z = true := hw _ (List.mem_of_getElem? (i := 31) rfl)
set_option maxRecDepth 65536 in
set_option maxHeartbeats 40000000 in
theorem b2 (l : Launch) (Z : State) (a0 : Array Value) (hw : ∀ d ∈ tables_1, d.before a0 Z = true) (a1 : Addr) (h0 : Heap) (n0 : Nat) (O0 : Old Z n0 h0)  :
    Con l Z (⟨"java/lang/Record", "<init>", "()V"⟩ : MethodName) jdk_30_method_1_code 1 none ({ frames := 1, cells := 0, slots := 0, locals := 12 } : Room) #[(.ref a1)] h0 (fun v h L => v = none ∧ Fr n0 L ∧ Keep h0 h []) := by
  refine Con.of (plainFor_of_name pn_0) ?_
  intro p e s m below meth c s₁ hx hby hml hZ hown hnm hret hlk X0 e0
  have N0 := Fr.nil n0
  refine go_cast (g' := mkF m 0 #[.val (.ref a1)] []) ?_ (by first | (simp [entryFrame, mkF, argsToLocals, Value.category]; done) | rfl)
  refine go_aload_n (q := 1) X0 hx (hb hby d2_0) (v := (.ref a1)) rfl rfl rfl ?_
  refine go_initO (q := 4) (W := 0) X0 hx hZ hown (w13 hw) (w14 hw) (w15 hw) e0 (by rw [hml]; rfl) (hb hby d2_1) (by decide) (Nat.le_of_eq rfl) (by decide) rfl ?_
  intro T1 X1 e1
  refine go_ret0 X1 hx hret hlk e1 (hb hby d2_4) (by decide) (by decide) ?_
  exact ⟨rfl, N0, (Keep.refl h0 [])⟩
set_option maxRecDepth 65536 in
set_option maxHeartbeats 40000000 in
theorem b1 (l : Launch) (Z : State) (a0 : Array Value) (hw : ∀ d ∈ tables_1, d.before a0 Z = true) (a1 : Addr) (t : UInt64) (k : Int32) (pp : UInt64) (u1 : Value) (u2 : Value) (u3 : Value) (h0 : Heap) (n0 : Nat) (O0 : Old Z n0 h0) (E_0 : Exa Z h0 a1 "com/example/causeway/causeway/model/Sampler") (F_1 : Fld Z h0 a1 "com/example/causeway/causeway/model/Sampler" "temperature" "D" u1) (F_2 : Fld Z h0 a1 "com/example/causeway/causeway/model/Sampler" "topK" "I" u2) (F_3 : Fld Z h0 a1 "com/example/causeway/causeway/model/Sampler" "topP" "D" u3) (g_4 : n0 ≤ a1) (r_5 : (¬ (cmpValue (FP.dcmp t 0) .l) < 0)) (r_6 : ((cmpValue (FP.dcmp t 9218868437227405312) .g) < 0)) (r_7 : (¬ k < 0)) (r_8 : (0 < (cmpValue (FP.dcmp pp 0) .l))) (r_9 : (¬ 0 < (cmpValue (FP.dcmp pp 4607182418800017408) .g))) :
    Con l Z (⟨"com/example/causeway/causeway/model/Sampler", "<init>", "(DID)V"⟩ : MethodName) prog_56_method_1_code 6 none ({ frames := 2, cells := 0, slots := 0, locals := 24 } : Room) #[(.ref a1), (.double t), (.int k), (.double pp)] h0 (fun v h L => v = none ∧ Fr n0 L ∧ Keep h0 h [a1] ∧ Exa Z h a1 "com/example/causeway/causeway/model/Sampler" ∧ Fld Z h a1 "com/example/causeway/causeway/model/Sampler" "temperature" "D" (.double t)) := by
  refine Con.of (plainFor_of_name pn_1) ?_
  intro p e s m below meth c s₁ hx hby hml hZ hown hnm hret hlk X0 e0
  have N0 := Fr.nil n0
  refine go_cast (g' := mkF m 0 #[.val (.ref a1), .val (.double t), .second, .val (.int k), .val (.double pp), .second] []) ?_ (by first | (simp [entryFrame, mkF, argsToLocals, Value.category]; done) | rfl)
  refine go_aload_n (q := 1) X0 hx (hb hby d1_0) (v := (.ref a1)) rfl rfl rfl ?_
  refine go_special (q := 4) X0 hx hZ hown (y := (⟨"java/lang/Record", "<init>", "()V"⟩ : MethodName)) (a := a1) rfl (w8 hw) (w9 hw) (w11 hw) (w12 hw) (by decide) e0 (b2 l Z a0 hw a1 h0 n0 O0 ) (argsL := []) (rest := []) rfl (lenOf pd_0 rfl) rfl (by rw [hml]; rfl) (W := 0) (Nat.le_of_eq rfl) (hb hby d1_1) (by decide) (by decide) (by decide) (by decide) rfl ?_
  rintro T1 h1 _ L1 X1 e1 ⟨rfl, M1, K1⟩
  have N1 := Fr.app N0 M1
  refine go_dload_n (q := 5) X1 hx (hb hby d1_4) (v := t) rfl rfl ?_
  refine go_dconst0 (q := 6) X1 hx (hb hby d1_5) (v := 0) (by decide +kernel) rfl ?_
  refine go_dcmp (q := 7) X1 hx (hb hby d1_6)  rfl ?_
  refine go_ifN (q := 10) X1 hx (hb hby d1_7) (XT.i0_lt_f r_5) rfl ?_
  refine go_dload_n (q := 11) X1 hx (hb hby d1_10) (v := t) rfl rfl ?_
  refine go_ldc2D (q := 14) X1 hx hZ hown (w16 hw) (hb hby d1_11) rfl ?_
  refine go_dcmp (q := 15) X1 hx (hb hby d1_14)  rfl ?_
  refine go_ifY (q := 32) X1 hx (hb hby d1_15) (XT.i0_lt_t r_6) (by decide) (by decide) ?_
  refine go_iload_n (q := 33) X1 hx (hb hby d1_32) (v := k) rfl rfl ?_
  refine go_ifY (q := 50) X1 hx (hb hby d1_33) (XT.i0_ge_t r_7) (by decide) (by decide) ?_
  refine go_dload (q := 52) X1 hx (hb hby d1_50) (v := pp) rfl rfl ?_
  refine go_dconst0 (q := 53) X1 hx (hb hby d1_52) (v := 0) (by decide +kernel) rfl ?_
  refine go_dcmp (q := 54) X1 hx (hb hby d1_53)  rfl ?_
  refine go_ifN (q := 57) X1 hx (hb hby d1_54) (XT.i0_le_f r_8) rfl ?_
  refine go_dload (q := 59) X1 hx (hb hby d1_57) (v := pp) rfl rfl ?_
  refine go_dconst1 (q := 60) X1 hx (hb hby d1_59) (v := 4607182418800017408) (by decide +kernel) rfl ?_
  refine go_dcmp (q := 61) X1 hx (hb hby d1_60)  rfl ?_
  refine go_ifY (q := 79) X1 hx (hb hby d1_61) (XT.i0_le_t r_9) (by decide) (by decide) ?_
  refine go_aload_n (q := 80) X1 hx (hb hby d1_79) (v := (.ref a1)) rfl rfl rfl ?_
  refine go_dload_n (q := 81) X1 hx (hb hby d1_80) (v := t) rfl rfl ?_
  have f2 : Exa Z h1 a1 "com/example/causeway/causeway/model/Sampler" := (E_0.keep K1)
  have f3 : Fld Z h1 a1 "com/example/causeway/causeway/model/Sampler" "temperature" "D" u1 := (F_1.keep K1 nin0)
  refine go_putF (q := 84) (host := "") X1 hx hZ hown (Or.inl (w17 hw)) Via.refl e1 f3 f2 (Or.inr ⟨(w18 hw), rfl, hnm⟩) (w3 hw) (ty := .double) (by decide) rfl rfl (hb hby d1_81) rfl ?_
  intro T4 h4 X4 e4 W4
  have N4 := Fr.snoc X4 N1 g_4
  have F4 : Fld Z h4 a1 "com/example/causeway/causeway/model/Sampler" "temperature" "D" (.double t) := f3.same W4
  refine go_aload_n (q := 85) X4 hx (hb hby d1_84) (v := (.ref a1)) rfl rfl rfl ?_
  refine go_iload_n (q := 86) X4 hx (hb hby d1_85) (v := k) rfl rfl ?_
  have f5 : Exa Z h4 a1 "com/example/causeway/causeway/model/Sampler" := (f2.wr W4)
  have f6 : Fld Z h4 a1 "com/example/causeway/causeway/model/Sampler" "topK" "I" u2 := ((F_2.keep K1 nin0).other W4 (Or.inr (slot_ne (Or.inr (w20 hw)) (Or.inr (w18 hw)) (by decide) (t := .int) (t' := .double) (by decide) (by decide))))
  refine go_putF (q := 89) (host := "") X4 hx hZ hown (Or.inl (w19 hw)) Via.refl e4 f6 f5 (Or.inr ⟨(w20 hw), rfl, hnm⟩) (w3 hw) (ty := .int) (by decide) rfl rfl (hb hby d1_86) rfl ?_
  intro T7 h7 X7 e7 W7
  have N7 := Fr.snoc X7 N4 g_4
  have F7 : Fld Z h7 a1 "com/example/causeway/causeway/model/Sampler" "topK" "I" (.int k) := f6.same W7
  refine go_aload_n (q := 90) X7 hx (hb hby d1_89) (v := (.ref a1)) rfl rfl rfl ?_
  refine go_dload (q := 92) X7 hx (hb hby d1_90) (v := pp) rfl rfl ?_
  have f8 : Exa Z h7 a1 "com/example/causeway/causeway/model/Sampler" := (f5.wr W7)
  have f9 : Fld Z h7 a1 "com/example/causeway/causeway/model/Sampler" "topP" "D" u3 := (((F_3.keep K1 nin0).other W4 (Or.inr (slot_ne (Or.inr (w22 hw)) (Or.inr (w18 hw)) (by decide) (t := .double) (t' := .double) (by decide) (by decide)))).other W7 (Or.inr (slot_ne (Or.inr (w22 hw)) (Or.inr (w20 hw)) (by decide) (t := .double) (t' := .int) (by decide) (by decide))))
  refine go_putF (q := 95) (host := "") X7 hx hZ hown (Or.inl (w21 hw)) Via.refl e7 f9 f8 (Or.inr ⟨(w22 hw), rfl, hnm⟩) (w3 hw) (ty := .double) (by decide) rfl rfl (hb hby d1_92) rfl ?_
  intro T10 h10 X10 e10 W10
  have N10 := Fr.snoc X10 N7 g_4
  have F10 : Fld Z h10 a1 "com/example/causeway/causeway/model/Sampler" "topP" "D" (.double pp) := f9.same W10
  have f11 : Exa Z h10 a1 "com/example/causeway/causeway/model/Sampler" := (f8.wr W10)
  have f12 : Fld Z h10 a1 "com/example/causeway/causeway/model/Sampler" "temperature" "D" (.double t) := ((F4.other W7 (Or.inr (slot_ne (Or.inr (w18 hw)) (Or.inr (w20 hw)) (by decide) (t := .double) (t' := .int) (by decide) (by decide)))).other W10 (Or.inr (slot_ne (Or.inr (w18 hw)) (Or.inr (w22 hw)) (by decide) (t := .double) (t' := .double) (by decide) (by decide))))
  refine go_ret0 X10 hx hret hlk e10 (hb hby d1_95) (by decide) (by decide) ?_
  exact ⟨rfl, N10, (((((Keep.refl h0 [a1]).trans K1 all0).wr W4 (Or.inl (List.mem_of_getElem? (i := 0) rfl))).wr W7 (Or.inl (List.mem_of_getElem? (i := 0) rfl))).wr W10 (Or.inl (List.mem_of_getElem? (i := 0) rfl))), f11, f12⟩
set_option maxRecDepth 65536 in
set_option maxHeartbeats 40000000 in
theorem b4 (l : Launch) (Z : State) (a0 : Array Value) (hw : ∀ d ∈ tables_1, d.before a0 Z = true) (a1 : Addr) (n : Int32) (t : UInt64) (h0 : Heap) (n0 : Nat) (O0 : Old Z n0 h0) (F_0 : Fld Z h0 a1 "com/example/causeway/causeway/model/Sampler" "temperature" "D" (.double t)) (r_1 : ((cmpValue (FP.dcmp t 0) .l) = 0)) :
    Con l Z (⟨"com/example/causeway/causeway/model/Sampler", "heapBytes", "(I)J"⟩ : MethodName) prog_56_method_4_code 2 (some .long) ({ frames := 0, cells := 0, slots := 0, locals := 0 } : Room) #[(.ref a1), (.int n)] h0 (fun v h L => v = some (.long (0 : Int64)) ∧ Fr n0 L ∧ Keep h0 h []) := by
  refine Con.of (plainFor_of_name pn_1) ?_
  intro p e s m below meth c s₁ hx hby hml hZ hown hnm hret hlk X0 e0
  have N0 := Fr.nil n0
  refine go_cast (g' := mkF m 0 #[.val (.ref a1), .val (.int n)] []) ?_ (by first | (simp [entryFrame, mkF, argsToLocals, Value.category]; done) | rfl)
  refine go_aload_n (q := 1) X0 hx (hb hby d4_0) (v := (.ref a1)) rfl rfl rfl ?_
  refine go_getF (q := 4) (host := "") X0 hx hZ hown (Or.inl (w17 hw)) Via.refl e0 F_0 (hb hby d4_1) rfl ?_
  intro T1 X1 e1
  refine go_dconst0 (q := 5) X1 hx (hb hby d4_4) (v := 0) (by decide +kernel) rfl ?_
  refine go_dcmp (q := 6) X1 hx (hb hby d4_5)  rfl ?_
  refine go_ifN (q := 9) X1 hx (hb hby d4_6) (XT.i0_ne_f r_1) rfl ?_
  refine go_lconst (q := 10) X1 hx (hb hby d4_9) (v := (0 : Int64)) (by decide) rfl ?_
  refine go_goto (q := 19) X1 hx (hb hby d4_10) (by decide) (by decide) ?_
  refine go_retL X1 hx hret hlk e1 (hb hby d4_19) (by decide) (by decide) ?_
  exact ⟨rfl, N0, (Keep.refl h0 [])⟩
set_option maxRecDepth 65536 in
set_option maxHeartbeats 40000000 in
theorem b4_1 (l : Launch) (Z : State) (a0 : Array Value) (hw : ∀ d ∈ tables_1, d.before a0 Z = true) (a1 : Addr) (n : Int32) (t : UInt64) (h0 : Heap) (n0 : Nat) (O0 : Old Z n0 h0) (F_0 : Fld Z h0 a1 "com/example/causeway/causeway/model/Sampler" "temperature" "D" (.double t)) (r_1 : (¬ (cmpValue (FP.dcmp t 0) .l) = 0)) :
    Con l Z (⟨"com/example/causeway/causeway/model/Sampler", "heapBytes", "(I)J"⟩ : MethodName) prog_56_method_4_code 2 (some .long) ({ frames := 0, cells := 0, slots := 0, locals := 0 } : Room) #[(.ref a1), (.int n)] h0 (fun v h L => v = some (.long ((64 : Int64) * n.toInt64)) ∧ Fr n0 L ∧ Keep h0 h []) := by
  refine Con.of (plainFor_of_name pn_1) ?_
  intro p e s m below meth c s₁ hx hby hml hZ hown hnm hret hlk X0 e0
  have N0 := Fr.nil n0
  refine go_cast (g' := mkF m 0 #[.val (.ref a1), .val (.int n)] []) ?_ (by first | (simp [entryFrame, mkF, argsToLocals, Value.category]; done) | rfl)
  refine go_aload_n (q := 1) X0 hx (hb hby d4_0) (v := (.ref a1)) rfl rfl rfl ?_
  refine go_getF (q := 4) (host := "") X0 hx hZ hown (Or.inl (w17 hw)) Via.refl e0 F_0 (hb hby d4_1) rfl ?_
  intro T1 X1 e1
  refine go_dconst0 (q := 5) X1 hx (hb hby d4_4) (v := 0) (by decide +kernel) rfl ?_
  refine go_dcmp (q := 6) X1 hx (hb hby d4_5)  rfl ?_
  refine go_ifY (q := 13) X1 hx (hb hby d4_6) (XT.i0_ne_t r_1) (by decide) (by decide) ?_
  refine go_ldc2J (q := 16) X1 hx hZ hown (w30 hw) (hb hby d4_13) rfl ?_
  refine go_iload_n (q := 17) X1 hx (hb hby d4_16) (v := n) rfl rfl ?_
  refine go_i2l (q := 18) X1 hx (hb hby d4_17)  rfl ?_
  refine go_lmul (q := 19) X1 hx (hb hby d4_18)  rfl ?_
  refine go_retL X1 hx hret hlk e1 (hb hby d4_19) (by decide) (by decide) ?_
  exact ⟨rfl, N0, (Keep.refl h0 [])⟩
set_option maxRecDepth 65536 in
set_option maxHeartbeats 40000000 in
theorem b0 (l : Launch) (Z : State) (a0 : Array Value) (hw : ∀ d ∈ tables_1, d.before a0 Z = true) (p0 : Int32) (p1 : Int32) (p2 : Int32) (p3 : Int32) (h0 : Heap) (n0 : Nat) (O0 : Old Z n0 h0)  :
    Con l Z x code maxLocals ret room_1 #[(.int p0), (.int p1), (.int p2), (.int p3)] h0 (fun v h L => v = some (.int (1 : Int32)) ∧ Fr n0 L ∧ Keep h0 h []) := by
  refine Con.of (plainFor_of_name pn_2) ?_
  intro p e s m below meth c s₁ hx hby hml hZ hown hnm hret hlk X0 e0
  have N0 := Fr.nil n0
  refine go_cast (g' := mkF m 0 #[.val (.int p0), .val (.int p1), .val (.int p2), .val (.int p3), .unset, .unset, .unset, .unset, .unset, .unset, .unset, .unset, .unset, .unset] []) ?_ (by first | (simp [entryFrame, mkF, argsToLocals, Value.category, maxLocals]; done) | rfl)
  refine go_iload_n (q := 1) X0 hx (hb hby at_0) (v := p0) rfl rfl ?_
  refine go_iconst (q := 2) X0 hx (hb hby at_1) (v := (3 : Int32)) (by decide) rfl ?_
  refine go_iand (q := 3) X0 hx (hb hby at_2) (v := (p0 &&& (3 : Int32))) rfl rfl ?_
  refine go_istore (q := 5) X0 hx (hb hby at_3) (l' := #[.val (.int p0), .val (.int p1), .val (.int p2), .val (.int p3), .val (.int (p0 &&& (3 : Int32))), .unset, .unset, .unset, .unset, .unset, .unset, .unset, .unset, .unset]) rfl rfl ?_
  refine go_iload (q := 7) X0 hx (hb hby at_5) (v := (p0 &&& (3 : Int32))) rfl rfl ?_
  by_cases c1 : (p0 &&& (3 : Int32)) = 0
  · refine go_ifN (q := 10) X0 hx (hb hby at_7) (XT.i0_ne_f c1) rfl ?_
    refine go_dconst0 (q := 11) X0 hx (hb hby at_10) (v := 0) (by decide +kernel) rfl ?_
    refine go_dstore (q := 13) X0 hx (hb hby at_11) (l' := #[.val (.int p0), .val (.int p1), .val (.int p2), .val (.int p3), .val (.int (p0 &&& (3 : Int32))), .val (.double 0), .second, .unset, .unset, .unset, .unset, .unset, .unset, .unset]) rfl rfl ?_
    refine go_iconst (q := 14) X0 hx (hb hby at_13) (v := (1 : Int32)) (by decide) rfl ?_
    refine go_istore (q := 16) X0 hx (hb hby at_14) (l' := #[.val (.int p0), .val (.int p1), .val (.int p2), .val (.int p3), .val (.int (p0 &&& (3 : Int32))), .val (.double 0), .second, .val (.int (1 : Int32)), .unset, .unset, .unset, .unset, .unset, .unset]) rfl rfl ?_
    refine go_goto (q := 54) X0 hx (hb hby at_16) (by decide) (by decide) ?_
    refine go_iload_n (q := 55) X0 hx (hb hby at_54) (v := p1) rfl rfl ?_
    refine go_ldcI (q := 57) X0 hx hZ hown (w0 hw) (hb hby at_55) rfl ?_
    refine go_iand (q := 58) X0 hx (hb hby at_57) (v := (p1 &&& (2147483647 : Int32))) rfl rfl ?_
    refine go_istore (q := 60) X0 hx (hb hby at_58) (l' := #[.val (.int p0), .val (.int p1), .val (.int p2), .val (.int p3), .val (.int (p0 &&& (3 : Int32))), .val (.double 0), .second, .val (.int (1 : Int32)), .val (.int (p1 &&& (2147483647 : Int32))), .unset, .unset, .unset, .unset, .unset]) rfl rfl ?_
    refine go_iconst (q := 61) X0 hx (hb hby at_60) (v := (1 : Int32)) (by decide) rfl ?_
    refine go_iload_n (q := 62) X0 hx (hb hby at_61) (v := p2) rfl rfl ?_
    refine go_sipush (q := 65) X0 hx (hb hby at_62) (v := (255 : Int32)) (by decide) rfl ?_
    refine go_iand (q := 66) X0 hx (hb hby at_65) (v := (p2 &&& (255 : Int32))) rfl rfl ?_
    refine go_iadd (q := 67) X0 hx (hb hby at_66) (v := ((1 : Int32) + (p2 &&& (255 : Int32)))) rfl rfl ?_
    refine go_i2d (q := 68) X0 hx (hb hby at_67)  rfl ?_
    refine go_ldc2D (q := 71) X0 hx hZ hown (w1 hw) (hb hby at_68) rfl ?_
    refine go_ddiv (q := 72) X0 hx (hb hby at_71) (own_topp (own_b8 p2)).1 rfl ?_
    refine go_dstore (q := 74) X0 hx (hb hby at_72) (l' := #[.val (.int p0), .val (.int p1), .val (.int p2), .val (.int p3), .val (.int (p0 &&& (3 : Int32))), .val (.double 0), .second, .val (.int (1 : Int32)), .val (.int (p1 &&& (2147483647 : Int32))), .val (.double (FP.ddiv (FP.i2d ((1 : Int32) + (p2 &&& (255 : Int32)))) 4643211215818981376)), .second, .unset, .unset, .unset]) rfl rfl ?_
    refine go_new (q := 77) X0 hx hZ hown (w2 hw) (w3 hw) (w4 hw) e0 (hb hby at_74) (by decide) (by decide) rfl ?_
    intro T2 h2 ob2 g2 X2 e2 E2 A2 D2
    have fr2 : n0 ≤ ob2 := own_ge O0 g2
    have sn2 : h0.size ≤ ob2 := g2 ▸ (Nat.le_refl _)
    have f3 : Fld Z h2 ob2 "com/example/causeway/causeway/model/Sampler" "temperature" "D" (.double 0) := D2 (Or.inr (w18 hw)) (ty := .double) (by decide)
    have f4 : Fld Z h2 ob2 "com/example/causeway/causeway/model/Sampler" "topK" "I" (.int (0 : Int32)) := D2 (Or.inr (w20 hw)) (ty := .int) (by decide)
    have f5 : Fld Z h2 ob2 "com/example/causeway/causeway/model/Sampler" "topP" "D" (.double 0) := D2 (Or.inr (w22 hw)) (ty := .double) (by decide)
    refine go_dup (q := 78) X2 hx (hb hby at_77) rfl rfl ?_
    refine go_dload (q := 80) X2 hx (hb hby at_78) (v := 0) rfl rfl ?_
    refine go_iload (q := 82) X2 hx (hb hby at_80) (v := (p1 &&& (2147483647 : Int32))) rfl rfl ?_
    refine go_dload (q := 84) X2 hx (hb hby at_82) (v := (FP.ddiv (FP.i2d ((1 : Int32) + (p2 &&& (255 : Int32)))) 4643211215818981376)) rfl rfl ?_
    have O6 : Old Z n0 h2 := (O0.ext E2)
    refine go_special (q := 87) X2 hx hZ hown (y := (⟨"com/example/causeway/causeway/model/Sampler", "<init>", "(DID)V"⟩ : MethodName)) (a := ob2) rfl (w5 hw) (w6 hw) (w4 hw) (w7 hw) (by decide) e2 (b1 l Z a0 hw ob2 0 (p1 &&& (2147483647 : Int32)) (FP.ddiv (FP.i2d ((1 : Int32) + (p2 &&& (255 : Int32)))) 4643211215818981376) (.double 0) (.int (0 : Int32)) (.double 0) h2 n0 O6 A2 f3 f4 f5 fr2 (by decide +kernel) (by decide +kernel) (own_nn p1) (own_topp (own_b8 p2)).2.1 (own_topp (own_b8 p2)).2.2) (argsL := [(.double 0), (.int (p1 &&& (2147483647 : Int32))), (.double (FP.ddiv (FP.i2d ((1 : Int32) + (p2 &&& (255 : Int32)))) 4643211215818981376))]) (rest := [(.ref ob2)]) rfl (lenOf pd_1 rfl) rfl (by rw [hml]; rfl) (W := 1) (Nat.le_of_eq rfl) (hb hby at_84) (by decide) (by decide) (by decide) (by decide) rfl ?_
    rintro T7 h7 _ L7 X7 e7 ⟨rfl, M7, K7, p7_0, p7_1⟩
    have N7 := Fr.app N0 M7
    refine go_astore (q := 89) X7 hx (hb hby at_87) rfl (l' := #[.val (.int p0), .val (.int p1), .val (.int p2), .val (.int p3), .val (.int (p0 &&& (3 : Int32))), .val (.double 0), .second, .val (.int (1 : Int32)), .val (.int (p1 &&& (2147483647 : Int32))), .val (.double (FP.ddiv (FP.i2d ((1 : Int32) + (p2 &&& (255 : Int32)))) 4643211215818981376)), .second, .val (.ref ob2), .unset, .unset]) rfl rfl ?_
    refine go_iload (q := 91) X7 hx (hb hby at_89) (v := (1 : Int32)) rfl rfl ?_
    refine go_ifN (q := 94) X7 hx (hb hby at_91) (XT.i0_eq_f (by decide)) rfl ?_
    refine go_lconst (q := 95) X7 hx (hb hby at_94) (v := (0 : Int64)) (by decide) rfl ?_
    refine go_goto (q := 103) X7 hx (hb hby at_95) (by decide) (by decide) ?_
    refine go_lstore (q := 105) X7 hx (hb hby at_103) (l' := #[.val (.int p0), .val (.int p1), .val (.int p2), .val (.int p3), .val (.int (p0 &&& (3 : Int32))), .val (.double 0), .second, .val (.int (1 : Int32)), .val (.int (p1 &&& (2147483647 : Int32))), .val (.double (FP.ddiv (FP.i2d ((1 : Int32) + (p2 &&& (255 : Int32)))) 4643211215818981376)), .second, .val (.ref ob2), .val (.long (0 : Int64)), .second]) rfl rfl ?_
    refine go_aload (q := 107) X7 hx (hb hby at_105) (v := (.ref ob2)) rfl rfl rfl ?_
    refine go_iload_n (q := 108) X7 hx (hb hby at_107) (v := p3) rfl rfl ?_
    have O8 : Old Z n0 h7 := (O6.keep K7 (allS fr2 all0))
    refine go_virtual (q := 111) X7 hx hZ hown (y := (⟨"com/example/causeway/causeway/model/Sampler", "heapBytes", "(I)J"⟩ : MethodName)) (z := (⟨"com/example/causeway/causeway/model/Sampler", "heapBytes", "(I)J"⟩ : MethodName)) (a := ob2) (w23 hw) (w24 hw) (notFace_of_selects (args := #[]) (mvT hZ (w26 hw))) (w26 hw) (w25 hw) (w4 hw) (w27 hw) (by decide) e7 p7_0 (b4 l Z a0 hw ob2 p3 0 h7 n0 O8 p7_1 (by decide +kernel)) (argsL := [(.int p3)]) (rest := []) rfl (lenOf pd_2 rfl) rfl (by rw [hml]; rfl) (W := 0) (Nat.le_of_eq rfl) (hb hby at_108) (by decide) (by decide) (by decide) (by decide) rfl ?_
    rintro T9 h9 _ L9 X9 e9 ⟨rfl, M9, K9⟩
    have N9 := Fr.app N7 M9
    refine go_lload (q := 113) X9 hx (hb hby at_111) (v := (0 : Int64)) rfl rfl ?_
    refine go_lcmp (q := 114) X9 hx (hb hby at_113)  rfl ?_
    refine go_ifN (q := 117) X9 hx (hb hby at_114) (XT.i0_ne_f (by decide)) rfl ?_
    refine go_iconst (q := 118) X9 hx (hb hby at_117) (v := (1 : Int32)) (by decide) rfl ?_
    refine go_goto (q := 122) X9 hx (hb hby at_118) (by decide) (by decide) ?_
    refine go_retI X9 hx hret hlk e9 (hb hby at_122) (by simp) (by decide) (by decide) (by decide) ?_
    exact ⟨(by first | rfl | simp [c1] | simp_all), N9, ((((Keep.refl h0 []).ext E2).trans K7 (allS (P := fun x => x ∈ [] ∨ h0.size ≤ x) (Or.inr sn2) all0)).trans K9 all0)⟩
  · refine go_ifY (q := 19) X0 hx (hb hby at_7) (XT.i0_ne_t c1) (by decide) (by decide) ?_
    refine go_iload (q := 21) X0 hx (hb hby at_19) (v := (p0 &&& (3 : Int32))) rfl rfl ?_
    refine go_iconst (q := 22) X0 hx (hb hby at_21) (v := (1 : Int32)) (by decide) rfl ?_
    by_cases c10 : (p0 &&& (3 : Int32)) = (1 : Int32)
    · refine go_icmpN (q := 25) X0 hx (hb hby at_22) (XT.ii_ne_f c10) rfl ?_
      refine go_ldc2D (q := 28) X0 hx hZ hown (w31 hw) (hb hby at_25) rfl ?_
      refine go_dstore (q := 30) X0 hx (hb hby at_28) (l' := #[.val (.int p0), .val (.int p1), .val (.int p2), .val (.int p3), .val (.int (p0 &&& (3 : Int32))), .val (.double 9223372036854775808), .second, .unset, .unset, .unset, .unset, .unset, .unset, .unset]) rfl rfl ?_
      refine go_iconst (q := 31) X0 hx (hb hby at_30) (v := (1 : Int32)) (by decide) rfl ?_
      refine go_istore (q := 33) X0 hx (hb hby at_31) (l' := #[.val (.int p0), .val (.int p1), .val (.int p2), .val (.int p3), .val (.int (p0 &&& (3 : Int32))), .val (.double 9223372036854775808), .second, .val (.int (1 : Int32)), .unset, .unset, .unset, .unset, .unset, .unset]) rfl rfl ?_
      refine go_goto (q := 54) X0 hx (hb hby at_33) (by decide) (by decide) ?_
      refine go_iload_n (q := 55) X0 hx (hb hby at_54) (v := p1) rfl rfl ?_
      refine go_ldcI (q := 57) X0 hx hZ hown (w0 hw) (hb hby at_55) rfl ?_
      refine go_iand (q := 58) X0 hx (hb hby at_57) (v := (p1 &&& (2147483647 : Int32))) rfl rfl ?_
      refine go_istore (q := 60) X0 hx (hb hby at_58) (l' := #[.val (.int p0), .val (.int p1), .val (.int p2), .val (.int p3), .val (.int (p0 &&& (3 : Int32))), .val (.double 9223372036854775808), .second, .val (.int (1 : Int32)), .val (.int (p1 &&& (2147483647 : Int32))), .unset, .unset, .unset, .unset, .unset]) rfl rfl ?_
      refine go_iconst (q := 61) X0 hx (hb hby at_60) (v := (1 : Int32)) (by decide) rfl ?_
      refine go_iload_n (q := 62) X0 hx (hb hby at_61) (v := p2) rfl rfl ?_
      refine go_sipush (q := 65) X0 hx (hb hby at_62) (v := (255 : Int32)) (by decide) rfl ?_
      refine go_iand (q := 66) X0 hx (hb hby at_65) (v := (p2 &&& (255 : Int32))) rfl rfl ?_
      refine go_iadd (q := 67) X0 hx (hb hby at_66) (v := ((1 : Int32) + (p2 &&& (255 : Int32)))) rfl rfl ?_
      refine go_i2d (q := 68) X0 hx (hb hby at_67)  rfl ?_
      refine go_ldc2D (q := 71) X0 hx hZ hown (w1 hw) (hb hby at_68) rfl ?_
      refine go_ddiv (q := 72) X0 hx (hb hby at_71) (own_topp (own_b8 p2)).1 rfl ?_
      refine go_dstore (q := 74) X0 hx (hb hby at_72) (l' := #[.val (.int p0), .val (.int p1), .val (.int p2), .val (.int p3), .val (.int (p0 &&& (3 : Int32))), .val (.double 9223372036854775808), .second, .val (.int (1 : Int32)), .val (.int (p1 &&& (2147483647 : Int32))), .val (.double (FP.ddiv (FP.i2d ((1 : Int32) + (p2 &&& (255 : Int32)))) 4643211215818981376)), .second, .unset, .unset, .unset]) rfl rfl ?_
      refine go_new (q := 77) X0 hx hZ hown (w2 hw) (w3 hw) (w4 hw) e0 (hb hby at_74) (by decide) (by decide) rfl ?_
      intro T11 h11 ob11 g11 X11 e11 E11 A11 D11
      have fr11 : n0 ≤ ob11 := own_ge O0 g11
      have sn11 : h0.size ≤ ob11 := g11 ▸ (Nat.le_refl _)
      have f12 : Fld Z h11 ob11 "com/example/causeway/causeway/model/Sampler" "temperature" "D" (.double 0) := D11 (Or.inr (w18 hw)) (ty := .double) (by decide)
      have f13 : Fld Z h11 ob11 "com/example/causeway/causeway/model/Sampler" "topK" "I" (.int (0 : Int32)) := D11 (Or.inr (w20 hw)) (ty := .int) (by decide)
      have f14 : Fld Z h11 ob11 "com/example/causeway/causeway/model/Sampler" "topP" "D" (.double 0) := D11 (Or.inr (w22 hw)) (ty := .double) (by decide)
      refine go_dup (q := 78) X11 hx (hb hby at_77) rfl rfl ?_
      refine go_dload (q := 80) X11 hx (hb hby at_78) (v := 9223372036854775808) rfl rfl ?_
      refine go_iload (q := 82) X11 hx (hb hby at_80) (v := (p1 &&& (2147483647 : Int32))) rfl rfl ?_
      refine go_dload (q := 84) X11 hx (hb hby at_82) (v := (FP.ddiv (FP.i2d ((1 : Int32) + (p2 &&& (255 : Int32)))) 4643211215818981376)) rfl rfl ?_
      have O15 : Old Z n0 h11 := (O0.ext E11)
      refine go_special (q := 87) X11 hx hZ hown (y := (⟨"com/example/causeway/causeway/model/Sampler", "<init>", "(DID)V"⟩ : MethodName)) (a := ob11) rfl (w5 hw) (w6 hw) (w4 hw) (w7 hw) (by decide) e11 (b1 l Z a0 hw ob11 9223372036854775808 (p1 &&& (2147483647 : Int32)) (FP.ddiv (FP.i2d ((1 : Int32) + (p2 &&& (255 : Int32)))) 4643211215818981376) (.double 0) (.int (0 : Int32)) (.double 0) h11 n0 O15 A11 f12 f13 f14 fr11 (by decide +kernel) (by decide +kernel) (own_nn p1) (own_topp (own_b8 p2)).2.1 (own_topp (own_b8 p2)).2.2) (argsL := [(.double 9223372036854775808), (.int (p1 &&& (2147483647 : Int32))), (.double (FP.ddiv (FP.i2d ((1 : Int32) + (p2 &&& (255 : Int32)))) 4643211215818981376))]) (rest := [(.ref ob11)]) rfl (lenOf pd_1 rfl) rfl (by rw [hml]; rfl) (W := 1) (Nat.le_of_eq rfl) (hb hby at_84) (by decide) (by decide) (by decide) (by decide) rfl ?_
      rintro T16 h16 _ L16 X16 e16 ⟨rfl, M16, K16, p16_0, p16_1⟩
      have N16 := Fr.app N0 M16
      refine go_astore (q := 89) X16 hx (hb hby at_87) rfl (l' := #[.val (.int p0), .val (.int p1), .val (.int p2), .val (.int p3), .val (.int (p0 &&& (3 : Int32))), .val (.double 9223372036854775808), .second, .val (.int (1 : Int32)), .val (.int (p1 &&& (2147483647 : Int32))), .val (.double (FP.ddiv (FP.i2d ((1 : Int32) + (p2 &&& (255 : Int32)))) 4643211215818981376)), .second, .val (.ref ob11), .unset, .unset]) rfl rfl ?_
      refine go_iload (q := 91) X16 hx (hb hby at_89) (v := (1 : Int32)) rfl rfl ?_
      refine go_ifN (q := 94) X16 hx (hb hby at_91) (XT.i0_eq_f (by decide)) rfl ?_
      refine go_lconst (q := 95) X16 hx (hb hby at_94) (v := (0 : Int64)) (by decide) rfl ?_
      refine go_goto (q := 103) X16 hx (hb hby at_95) (by decide) (by decide) ?_
      refine go_lstore (q := 105) X16 hx (hb hby at_103) (l' := #[.val (.int p0), .val (.int p1), .val (.int p2), .val (.int p3), .val (.int (p0 &&& (3 : Int32))), .val (.double 9223372036854775808), .second, .val (.int (1 : Int32)), .val (.int (p1 &&& (2147483647 : Int32))), .val (.double (FP.ddiv (FP.i2d ((1 : Int32) + (p2 &&& (255 : Int32)))) 4643211215818981376)), .second, .val (.ref ob11), .val (.long (0 : Int64)), .second]) rfl rfl ?_
      refine go_aload (q := 107) X16 hx (hb hby at_105) (v := (.ref ob11)) rfl rfl rfl ?_
      refine go_iload_n (q := 108) X16 hx (hb hby at_107) (v := p3) rfl rfl ?_
      have O17 : Old Z n0 h16 := (O15.keep K16 (allS fr11 all0))
      refine go_virtual (q := 111) X16 hx hZ hown (y := (⟨"com/example/causeway/causeway/model/Sampler", "heapBytes", "(I)J"⟩ : MethodName)) (z := (⟨"com/example/causeway/causeway/model/Sampler", "heapBytes", "(I)J"⟩ : MethodName)) (a := ob11) (w23 hw) (w24 hw) (notFace_of_selects (args := #[]) (mvT hZ (w26 hw))) (w26 hw) (w25 hw) (w4 hw) (w27 hw) (by decide) e16 p16_0 (b4 l Z a0 hw ob11 p3 9223372036854775808 h16 n0 O17 p16_1 (by decide +kernel)) (argsL := [(.int p3)]) (rest := []) rfl (lenOf pd_2 rfl) rfl (by rw [hml]; rfl) (W := 0) (Nat.le_of_eq rfl) (hb hby at_108) (by decide) (by decide) (by decide) (by decide) rfl ?_
      rintro T18 h18 _ L18 X18 e18 ⟨rfl, M18, K18⟩
      have N18 := Fr.app N16 M18
      refine go_lload (q := 113) X18 hx (hb hby at_111) (v := (0 : Int64)) rfl rfl ?_
      refine go_lcmp (q := 114) X18 hx (hb hby at_113)  rfl ?_
      refine go_ifN (q := 117) X18 hx (hb hby at_114) (XT.i0_ne_f (by decide)) rfl ?_
      refine go_iconst (q := 118) X18 hx (hb hby at_117) (v := (1 : Int32)) (by decide) rfl ?_
      refine go_goto (q := 122) X18 hx (hb hby at_118) (by decide) (by decide) ?_
      refine go_retI X18 hx hret hlk e18 (hb hby at_122) (by simp) (by decide) (by decide) (by decide) ?_
      exact ⟨(by first | rfl | simp [c1, c10] | simp_all), N18, ((((Keep.refl h0 []).ext E11).trans K16 (allS (P := fun x => x ∈ [] ∨ h0.size ≤ x) (Or.inr sn11) all0)).trans K18 all0)⟩
    · refine go_icmpY (q := 36) X0 hx (hb hby at_22) (XT.ii_ne_t c10) (by decide) (by decide) ?_
      refine go_iconst (q := 37) X0 hx (hb hby at_36) (v := (1 : Int32)) (by decide) rfl ?_
      refine go_iload_n (q := 38) X0 hx (hb hby at_37) (v := p0) rfl rfl ?_
      refine go_iconst (q := 39) X0 hx (hb hby at_38) (v := (2 : Int32)) (by decide) rfl ?_
      refine go_iushr (q := 40) X0 hx (hb hby at_39) (v := (XT.ushr p0 (2 : Int32))) rfl rfl ?_
      refine go_ldcI (q := 42) X0 hx hZ hown (w28 hw) (hb hby at_40) rfl ?_
      refine go_iand (q := 43) X0 hx (hb hby at_42) (v := ((XT.ushr p0 (2 : Int32)) &&& (65535 : Int32))) rfl rfl ?_
      refine go_iadd (q := 44) X0 hx (hb hby at_43) (v := ((1 : Int32) + ((XT.ushr p0 (2 : Int32)) &&& (65535 : Int32)))) rfl rfl ?_
      refine go_i2d (q := 45) X0 hx (hb hby at_44)  rfl ?_
      refine go_ldc2D (q := 48) X0 hx hZ hown (w29 hw) (hb hby at_45) rfl ?_
      refine go_ddiv (q := 49) X0 hx (hb hby at_48) (own_temp (own_b16 (XT.ushr p0 (2 : Int32)))).1 rfl ?_
      refine go_dstore (q := 51) X0 hx (hb hby at_49) (l' := #[.val (.int p0), .val (.int p1), .val (.int p2), .val (.int p3), .val (.int (p0 &&& (3 : Int32))), .val (.double (FP.ddiv (FP.i2d ((1 : Int32) + ((XT.ushr p0 (2 : Int32)) &&& (65535 : Int32)))) 4625196817309499392)), .second, .unset, .unset, .unset, .unset, .unset, .unset, .unset]) rfl rfl ?_
      refine go_iconst (q := 52) X0 hx (hb hby at_51) (v := (0 : Int32)) (by decide) rfl ?_
      refine go_istore (q := 54) X0 hx (hb hby at_52) (l' := #[.val (.int p0), .val (.int p1), .val (.int p2), .val (.int p3), .val (.int (p0 &&& (3 : Int32))), .val (.double (FP.ddiv (FP.i2d ((1 : Int32) + ((XT.ushr p0 (2 : Int32)) &&& (65535 : Int32)))) 4625196817309499392)), .second, .val (.int (0 : Int32)), .unset, .unset, .unset, .unset, .unset, .unset]) rfl rfl ?_
      refine go_iload_n (q := 55) X0 hx (hb hby at_54) (v := p1) rfl rfl ?_
      refine go_ldcI (q := 57) X0 hx hZ hown (w0 hw) (hb hby at_55) rfl ?_
      refine go_iand (q := 58) X0 hx (hb hby at_57) (v := (p1 &&& (2147483647 : Int32))) rfl rfl ?_
      refine go_istore (q := 60) X0 hx (hb hby at_58) (l' := #[.val (.int p0), .val (.int p1), .val (.int p2), .val (.int p3), .val (.int (p0 &&& (3 : Int32))), .val (.double (FP.ddiv (FP.i2d ((1 : Int32) + ((XT.ushr p0 (2 : Int32)) &&& (65535 : Int32)))) 4625196817309499392)), .second, .val (.int (0 : Int32)), .val (.int (p1 &&& (2147483647 : Int32))), .unset, .unset, .unset, .unset, .unset]) rfl rfl ?_
      refine go_iconst (q := 61) X0 hx (hb hby at_60) (v := (1 : Int32)) (by decide) rfl ?_
      refine go_iload_n (q := 62) X0 hx (hb hby at_61) (v := p2) rfl rfl ?_
      refine go_sipush (q := 65) X0 hx (hb hby at_62) (v := (255 : Int32)) (by decide) rfl ?_
      refine go_iand (q := 66) X0 hx (hb hby at_65) (v := (p2 &&& (255 : Int32))) rfl rfl ?_
      refine go_iadd (q := 67) X0 hx (hb hby at_66) (v := ((1 : Int32) + (p2 &&& (255 : Int32)))) rfl rfl ?_
      refine go_i2d (q := 68) X0 hx (hb hby at_67)  rfl ?_
      refine go_ldc2D (q := 71) X0 hx hZ hown (w1 hw) (hb hby at_68) rfl ?_
      refine go_ddiv (q := 72) X0 hx (hb hby at_71) (own_topp (own_b8 p2)).1 rfl ?_
      refine go_dstore (q := 74) X0 hx (hb hby at_72) (l' := #[.val (.int p0), .val (.int p1), .val (.int p2), .val (.int p3), .val (.int (p0 &&& (3 : Int32))), .val (.double (FP.ddiv (FP.i2d ((1 : Int32) + ((XT.ushr p0 (2 : Int32)) &&& (65535 : Int32)))) 4625196817309499392)), .second, .val (.int (0 : Int32)), .val (.int (p1 &&& (2147483647 : Int32))), .val (.double (FP.ddiv (FP.i2d ((1 : Int32) + (p2 &&& (255 : Int32)))) 4643211215818981376)), .second, .unset, .unset, .unset]) rfl rfl ?_
      refine go_new (q := 77) X0 hx hZ hown (w2 hw) (w3 hw) (w4 hw) e0 (hb hby at_74) (by decide) (by decide) rfl ?_
      intro T19 h19 ob19 g19 X19 e19 E19 A19 D19
      have fr19 : n0 ≤ ob19 := own_ge O0 g19
      have sn19 : h0.size ≤ ob19 := g19 ▸ (Nat.le_refl _)
      have f20 : Fld Z h19 ob19 "com/example/causeway/causeway/model/Sampler" "temperature" "D" (.double 0) := D19 (Or.inr (w18 hw)) (ty := .double) (by decide)
      have f21 : Fld Z h19 ob19 "com/example/causeway/causeway/model/Sampler" "topK" "I" (.int (0 : Int32)) := D19 (Or.inr (w20 hw)) (ty := .int) (by decide)
      have f22 : Fld Z h19 ob19 "com/example/causeway/causeway/model/Sampler" "topP" "D" (.double 0) := D19 (Or.inr (w22 hw)) (ty := .double) (by decide)
      refine go_dup (q := 78) X19 hx (hb hby at_77) rfl rfl ?_
      refine go_dload (q := 80) X19 hx (hb hby at_78) (v := (FP.ddiv (FP.i2d ((1 : Int32) + ((XT.ushr p0 (2 : Int32)) &&& (65535 : Int32)))) 4625196817309499392)) rfl rfl ?_
      refine go_iload (q := 82) X19 hx (hb hby at_80) (v := (p1 &&& (2147483647 : Int32))) rfl rfl ?_
      refine go_dload (q := 84) X19 hx (hb hby at_82) (v := (FP.ddiv (FP.i2d ((1 : Int32) + (p2 &&& (255 : Int32)))) 4643211215818981376)) rfl rfl ?_
      have O23 : Old Z n0 h19 := (O0.ext E19)
      refine go_special (q := 87) X19 hx hZ hown (y := (⟨"com/example/causeway/causeway/model/Sampler", "<init>", "(DID)V"⟩ : MethodName)) (a := ob19) rfl (w5 hw) (w6 hw) (w4 hw) (w7 hw) (by decide) e19 (b1 l Z a0 hw ob19 (FP.ddiv (FP.i2d ((1 : Int32) + ((XT.ushr p0 (2 : Int32)) &&& (65535 : Int32)))) 4625196817309499392) (p1 &&& (2147483647 : Int32)) (FP.ddiv (FP.i2d ((1 : Int32) + (p2 &&& (255 : Int32)))) 4643211215818981376) (.double 0) (.int (0 : Int32)) (.double 0) h19 n0 O23 A19 f20 f21 f22 fr19 (own_temp (own_b16 (XT.ushr p0 (2 : Int32)))).2.1 (own_temp (own_b16 (XT.ushr p0 (2 : Int32)))).2.2.1 (own_nn p1) (own_topp (own_b8 p2)).2.1 (own_topp (own_b8 p2)).2.2) (argsL := [(.double (FP.ddiv (FP.i2d ((1 : Int32) + ((XT.ushr p0 (2 : Int32)) &&& (65535 : Int32)))) 4625196817309499392)), (.int (p1 &&& (2147483647 : Int32))), (.double (FP.ddiv (FP.i2d ((1 : Int32) + (p2 &&& (255 : Int32)))) 4643211215818981376))]) (rest := [(.ref ob19)]) rfl (lenOf pd_1 rfl) rfl (by rw [hml]; rfl) (W := 1) (Nat.le_of_eq rfl) (hb hby at_84) (by decide) (by decide) (by decide) (by decide) rfl ?_
      rintro T24 h24 _ L24 X24 e24 ⟨rfl, M24, K24, p24_0, p24_1⟩
      have N24 := Fr.app N0 M24
      refine go_astore (q := 89) X24 hx (hb hby at_87) rfl (l' := #[.val (.int p0), .val (.int p1), .val (.int p2), .val (.int p3), .val (.int (p0 &&& (3 : Int32))), .val (.double (FP.ddiv (FP.i2d ((1 : Int32) + ((XT.ushr p0 (2 : Int32)) &&& (65535 : Int32)))) 4625196817309499392)), .second, .val (.int (0 : Int32)), .val (.int (p1 &&& (2147483647 : Int32))), .val (.double (FP.ddiv (FP.i2d ((1 : Int32) + (p2 &&& (255 : Int32)))) 4643211215818981376)), .second, .val (.ref ob19), .unset, .unset]) rfl rfl ?_
      refine go_iload (q := 91) X24 hx (hb hby at_89) (v := (0 : Int32)) rfl rfl ?_
      refine go_ifY (q := 98) X24 hx (hb hby at_91) (XT.i0_eq_t (by decide)) (by decide) (by decide) ?_
      refine go_iload_n (q := 99) X24 hx (hb hby at_98) (v := p3) rfl rfl ?_
      refine go_i2l (q := 100) X24 hx (hb hby at_99)  rfl ?_
      refine go_bipush (q := 102) X24 hx (hb hby at_100) (v := (6 : Int32)) (by decide) rfl ?_
      refine go_lshl (q := 103) X24 hx (hb hby at_102)  rfl ?_
      refine go_lstore (q := 105) X24 hx (hb hby at_103) (l' := #[.val (.int p0), .val (.int p1), .val (.int p2), .val (.int p3), .val (.int (p0 &&& (3 : Int32))), .val (.double (FP.ddiv (FP.i2d ((1 : Int32) + ((XT.ushr p0 (2 : Int32)) &&& (65535 : Int32)))) 4625196817309499392)), .second, .val (.int (0 : Int32)), .val (.int (p1 &&& (2147483647 : Int32))), .val (.double (FP.ddiv (FP.i2d ((1 : Int32) + (p2 &&& (255 : Int32)))) 4643211215818981376)), .second, .val (.ref ob19), .val (.long (p3.toInt64 <<< ((6 : Int32).toInt64 &&& 63))), .second]) rfl rfl ?_
      refine go_aload (q := 107) X24 hx (hb hby at_105) (v := (.ref ob19)) rfl rfl rfl ?_
      refine go_iload_n (q := 108) X24 hx (hb hby at_107) (v := p3) rfl rfl ?_
      have O25 : Old Z n0 h24 := (O23.keep K24 (allS fr19 all0))
      refine go_virtual (q := 111) X24 hx hZ hown (y := (⟨"com/example/causeway/causeway/model/Sampler", "heapBytes", "(I)J"⟩ : MethodName)) (z := (⟨"com/example/causeway/causeway/model/Sampler", "heapBytes", "(I)J"⟩ : MethodName)) (a := ob19) (w23 hw) (w24 hw) (notFace_of_selects (args := #[]) (mvT hZ (w26 hw))) (w26 hw) (w25 hw) (w4 hw) (w27 hw) (by decide) e24 p24_0 (b4_1 l Z a0 hw ob19 p3 (FP.ddiv (FP.i2d ((1 : Int32) + ((XT.ushr p0 (2 : Int32)) &&& (65535 : Int32)))) 4625196817309499392) h24 n0 O25 p24_1 (own_temp (own_b16 (XT.ushr p0 (2 : Int32)))).2.2.2) (argsL := [(.int p3)]) (rest := []) rfl (lenOf pd_2 rfl) rfl (by rw [hml]; rfl) (W := 0) (Nat.le_of_eq rfl) (hb hby at_108) (by decide) (by decide) (by decide) (by decide) rfl ?_
      rintro T26 h26 _ L26 X26 e26 ⟨rfl, M26, K26⟩
      have N26 := Fr.app N24 M26
      refine go_lload (q := 113) X26 hx (hb hby at_111) (v := (p3.toInt64 <<< ((6 : Int32).toInt64 &&& 63))) rfl rfl ?_
      refine go_lcmp (q := 114) X26 hx (hb hby at_113)  rfl ?_
      refine go_ifN (q := 117) X26 hx (hb hby at_114) (XT.i0_ne_f (own_cmp64 p3)) rfl ?_
      refine go_iconst (q := 118) X26 hx (hb hby at_117) (v := (1 : Int32)) (by decide) rfl ?_
      refine go_goto (q := 122) X26 hx (hb hby at_118) (by decide) (by decide) ?_
      refine go_retI X26 hx hret hlk e26 (hb hby at_122) (by simp) (by decide) (by decide) (by decide) ?_
      exact ⟨(by first | rfl | simp [c1, c10] | simp_all), N26, ((((Keep.refl h0 []).ext E19).trans K24 (allS (P := fun x => x ∈ [] ∨ h0.size ≤ x) (Or.inr sn19) all0)).trans K26 all0)⟩
set_option maxRecDepth 65536 in
set_option maxHeartbeats 40000000 in
theorem comes_1 {Post : Tables → Env → Array Value → State → Outcome → State → Prop} (hpost : ∀ tb e args s v u, (limb_1_1.after args s (.returned v) u = true ∧ limb_1_2.after args s (.returned v) u = true ∧ True) → FrameEnd s (.returned v) u (Jvm.fieldLocs frame_1_writes args s ++ Jvm.arrayLocs frame_1_arrays args s ++ Jvm.staticLocs frame_1_statics s) 16 128 → Post tb e args s (.returned v) u) :
    ArmFor flags0 classFile x code maxLocals ret World_1 tables_1 room_1 Calls_1 rest_1 Pre_1 Post := by
  intro l hfl _ _ p e ha hc hk s m args below hf hA hF happ hP
  obtain ⟨hcalls, hrest, hpre⟩ := hP
  obtain ⟨-, -, -, hnamed, -, -, -, hat⟩ := (Spec.applies_iff hf).mp happ
  obtain ⟨hg, hn⟩ := and_e (Cond.before_iff.mp (show (Jvm.Cond.and given_1 narrow_1).before args s = true from hpre))
  obtain ⟨hct, hg⟩ := and_e hg
  obtain ⟨w0, w1, w2, w3, rfl⟩ : ∃ w0 w1 w2 w3 : Value, args = #[w0, w1, w2, w3] := by
    have hs : args.size = 4 := by simpa [Cond.value, given_1] using hct
    obtain ⟨L⟩ := args
    match L, hs with
    | [w0, w1, w2, w3], _ => exact ⟨w0, w1, w2, w3, rfl⟩
  have hw := fun d (hd : d ∈ tables_1) => atoms_spec (ws := Jvm.Cond.code x code maxLocals ret :: tables_1) hat d (List.mem_cons_of_mem _ hd)
  have hfit : Fit s := fun {y c} hc i hi => by
    obtain ⟨ha, rfl⟩ := Array.getElem?_eq_some_iff.mp hc
    have q := List.all_eq_true.mp ((Array.all_eq_true_iff_forall_mem.mp hF) _ (Array.getElem_mem ha)) i (List.mem_range.mpr hi)
    simpa [Array.getElem?_eq_getElem hi] using q
  obtain ⟨hg0, hg⟩ := and_e hg
  obtain ⟨i0, q0⟩ := is_v hg0
  obtain rfl : w0 = (.int i0) := Option.some.inj q0
  obtain ⟨hg1, hg⟩ := and_e hg
  obtain ⟨i1, q1⟩ := is_v hg1
  obtain rfl : w1 = (.int i1) := Option.some.inj q1
  obtain ⟨hg2, hg⟩ := and_e hg
  obtain ⟨i2, q2⟩ := is_v hg2
  obtain rfl : w2 = (.int i2) := Option.some.inj q2
  obtain ⟨i3, q3⟩ := is_v hg
  obtain rfl : w3 = (.int i3) := Option.some.inj q3
  obtain ⟨n, o, h1, h2, h3, _, L, rfl, ⟨rfl, N, -⟩, hq⟩ := b0 l s _ hw i0 i1 i2 i3 s.heap s.heap.size (Old.start s) tables_1 p e ha hc hk s m _ below hf ((Spec.applies_iff_loose hf).mp happ).1 ⟨rfl, State.Warmed39.refl s, rfl⟩ trivial
  refine ⟨n, _, h1, h2, h3, hpost _ _ _ _ _ _ ⟨Cond.after_iff.mpr rfl, Cond.after_iff.mpr (eq_i res_at (Term.int_eval (1)) rfl), trivial⟩ ⟨hq.1, hq.2.1, (hq.2.2.sift fun y hy => Or.inr (N y hy)).mono (by decide) (by decide)⟩⟩
theorem main_1_1 : Claimed_1_1 := comes_1 fun _ _ _ _ _ _ h hF => ⟨h.1, hF⟩
theorem main_1_2 : Claimed_1_2 := comes_1 fun _ _ _ _ _ _ h hF => ⟨h.2.1, hF⟩

end Jvm.Pilot.@@N@@
namespace Jvm.Pilot.@@N@@
open Jvm Jvm.ClassFile Sem Op Lib Jvm.Free Jvm.Stand Jvm.Pilot.@@N@@.Jvm.D
/-! MADE BY PROGRAM (witnessworld.py) out of the Statement's table words and the real class files: 10 classes; the members and pool entries that the words name. The judged class is class 1, her method 1. -/
namespace start1
open Jvm.ClassFile
def u (s : String) : CpInfo := .utf8 (stringToUtf16 s)
/-- a pool by its gaps: so many unusable entries, then the entry; so many at the end -/
def gap : Nat → List CpInfo → List CpInfo
  | 0, r => r
  | n + 1, r => .unusable :: gap n r
def poolList (es : List (Nat × CpInfo)) (last : Nat) : List CpInfo := es.foldr (fun e r => gap e.1 (e.2 :: r)) (gap last [])
def pool (es : List (Nat × CpInfo)) (last : Nat) : Array CpInfo := ⟨poolList es last⟩
def fileOf (pool : Array CpInfo) (this : Nat) (attrs : Array Attribute := #[]) (ms : Array MethodInfo := #[]) (fl : Nat := 33) (sup : Nat := 0) (ifs : Array Nat := #[]) (fds : Array FieldInfo := #[]) : ClassFile where
  minorVersion := 0
  majorVersion := 65
  constantPool := pool
  accessFlags := fl
  thisClass := this
  superClass := sup
  interfaces := ifs
  fields := fds
  methods := ms
  attributes := attrs
def plain (name : String) (sup : Option ClassId) : Class where
  name := name
  kind := .ordinary
  loader := none
  accessFlags := 33
  super := sup
  interfaces := #[]
  cf := none
  fields := #[]
  methods := #[]
  instanceTypes := #[]
  staticTypes := #[]
  resolved := #[]
  callSites := []
  init := .initialized
  statics := none
  mirror := none

def pool0 : Array CpInfo := pool [(5, u "<init>"), (0, u "()V"), (1, .class_ 10), (1, u "java/lang/Object")] 113

def k0c0 : Code := { maxStack := 0, maxLocals := 1, code := object_method_1_code, exceptionTable := #[], attributes := #[] }
def k0m0 : Method := { name := "<init>", desc := "()V", sig := { parameters := [], returnType := none }, accessFlags := 1, code := some k0c0 }
/-- java/lang/Object -/
def k0 : Class := { plain "java/lang/Object" none with
  accessFlags := 33
  interfaces := #[]
  cf := some (fileOf pool0 8 #[] #[{ accessFlags := 1, nameIndex := 5, descriptorIndex := 6, attributes := #[] }] 33 0 #[] #[])
  fields := #[]
  methods := #[k0m0]
  instanceTypes := #[]
  staticTypes := #[]
  resolved := Array.replicate 124 none
  statics := none }

def pool1 : Array CpInfo := pool [(2, .class_ 4), (1, u "java/lang/Object"), (0, u "<init>"), (0, u "()V"), (0, .double 9223372036854775808), (1, .integer 65535), (0, .double 4625196817309499392), (1, .integer 2147483647), (0, .double 4643211215818981376), (1, .class_ 16), (0, u "com/example/causeway/causeway/model/Sampler"), (0, .methodref 15 18), (0, .nameAndType 5 19), (0, u "(DID)V"), (0, .methodref 15 21), (0, .nameAndType 22 23), (0, u "heapBytes"), (0, u "(I)J"), (0, .class_ 25), (0, u "com/example/causeway/causeway/model/SamplerHeapBytesPinLaw"), (2, u "law"), (0, u "(IIII)Z")] 3

def k1m0 : Method := { name := "<init>", desc := "()V", sig := { parameters := [], returnType := none }, accessFlags := 1, code := none }
def k1c1 : Code := { maxStack := 7, maxLocals := 14, code := code, exceptionTable := #[], attributes := #[] }
def k1m1 : Method := { name := "law", desc := "(IIII)Z", sig := { parameters := [.int, .int, .int, .int], returnType := some .boolean }, accessFlags := 9, code := some k1c1 }
/-- com/example/causeway/causeway/model/SamplerHeapBytesPinLaw -/
def k1 : Class := { plain "com/example/causeway/causeway/model/SamplerHeapBytesPinLaw" (some 0) with
  accessFlags := 49
  interfaces := #[]
  cf := some (fileOf pool1 24 #[] #[{ accessFlags := 1, nameIndex := 5, descriptorIndex := 6, attributes := #[] }, { accessFlags := 9, nameIndex := 28, descriptorIndex := 29, attributes := #[] }] 49 2 #[] #[])
  fields := #[]
  methods := #[k1m0, k1m1]
  instanceTypes := #[]
  staticTypes := #[]
  resolved := Array.replicate 33 none
  statics := none }

def pool2 : Array CpInfo := pool [(1, .methodref 2 3), (0, .class_ 4), (0, .nameAndType 5 6), (0, u "java/lang/Object"), (0, u "<init>"), (0, u "()V"), (0, .class_ 8), (0, u "java/lang/Record")] 13

def k2c0 : Code := { maxStack := 1, maxLocals := 1, code := jdk_30_method_1_code, exceptionTable := #[], attributes := #[] }
def k2m0 : Method := { name := "<init>", desc := "()V", sig := { parameters := [], returnType := none }, accessFlags := 4, code := some k2c0 }
/-- java/lang/Record -/
def k2 : Class := { plain "java/lang/Record" (some 0) with
  accessFlags := 1057
  interfaces := #[]
  cf := some (fileOf pool2 7 #[] #[{ accessFlags := 4, nameIndex := 5, descriptorIndex := 6, attributes := #[] }] 1057 2 #[] #[])
  fields := #[]
  methods := #[k2m0]
  instanceTypes := #[]
  staticTypes := #[]
  resolved := Array.replicate 22 none
  statics := none }

def pool3 : Array CpInfo := pool [(1, .methodref 2 3), (0, .class_ 4), (0, .nameAndType 5 6), (0, u "java/lang/Record"), (0, u "<init>"), (0, u "()V"), (2, .double 9218868437227405312), (14, .fieldref 25 26), (0, .class_ 27), (0, .nameAndType 28 29), (0, u "com/example/causeway/causeway/model/Sampler"), (0, u "temperature"), (0, u "D"), (0, .fieldref 25 31), (0, .nameAndType 32 33), (0, u "topK"), (0, u "I"), (0, .fieldref 25 35), (0, .nameAndType 36 29), (0, u "topP"), (0, .class_ 38), (0, u "com/example/causeway/causeway/model/Sampler$Distribution"), (66, .long 64), (19, u "DRAWING_BYTES_PER_ID"), (0, u "J"), (1, u "(DID)V"), (10, u "heapBytes"), (0, u "(I)J")] 60

def k3c0 : Code := { maxStack := 4, maxLocals := 6, code := prog_56_method_1_code, exceptionTable := #[], attributes := #[] }
def k3m0 : Method := { name := "<init>", desc := "(DID)V", sig := { parameters := [.double, .int, .double], returnType := none }, accessFlags := 1, code := some k3c0 }
def k3c1 : Code := { maxStack := 4, maxLocals := 2, code := prog_56_method_4_code, exceptionTable := #[], attributes := #[] }
def k3m1 : Method := { name := "heapBytes", desc := "(I)J", sig := { parameters := [.int], returnType := some .long }, accessFlags := 1, code := some k3c1 }
/-- com/example/causeway/causeway/model/Sampler -/
def k3 : Class := { plain "com/example/causeway/causeway/model/Sampler" (some 2) with
  accessFlags := 49
  interfaces := #[]
  cf := some (fileOf pool3 25 #[.nestMembers #[37]] #[{ accessFlags := 1, nameIndex := 5, descriptorIndex := 128, attributes := #[] }, { accessFlags := 1, nameIndex := 139, descriptorIndex := 140, attributes := #[] }] 49 2 #[] #[{ accessFlags := 18, nameIndex := 28, descriptorIndex := 29, attributes := #[] }, { accessFlags := 18, nameIndex := 32, descriptorIndex := 33, attributes := #[] }, { accessFlags := 18, nameIndex := 36, descriptorIndex := 29, attributes := #[] }, { accessFlags := 26, nameIndex := 125, descriptorIndex := 126, attributes := #[] }])
  fields := #[{ name := "temperature", type := .double, accessFlags := 18, slot := 0, constantValue := 0 }, { name := "topK", type := .int, accessFlags := 18, slot := 1, constantValue := 0 }, { name := "topP", type := .double, accessFlags := 18, slot := 2, constantValue := 0 }, { name := "DRAWING_BYTES_PER_ID", type := .long, accessFlags := 26, slot := 0, constantValue := 0 }]
  methods := #[k3m0, k3m1]
  instanceTypes := #[.double, .int, .double]
  staticTypes := #[.long]
  resolved := Array.replicate 201 none
  statics := none }

def pool4 : Array CpInfo := pool [(1, u "java/lang/Cloneable"), (0, .class_ 1), (0, u "java/lang/Object"), (0, .class_ 3)] 3

/-- java/lang/Cloneable -/
def k4 : Class := { plain "java/lang/Cloneable" (some 0) with
  accessFlags := 1537
  interfaces := #[]
  cf := some (fileOf pool4 2 #[] #[] 1537 4 #[] #[])
  fields := #[]
  methods := #[]
  instanceTypes := #[]
  staticTypes := #[]
  resolved := Array.replicate 8 none
  statics := none }

def pool5 : Array CpInfo := pool [(1, u "java/io/Serializable"), (0, .class_ 1), (0, u "java/lang/Object"), (0, .class_ 3)] 3

/-- java/io/Serializable -/
def k5 : Class := { plain "java/io/Serializable" (some 0) with
  accessFlags := 1537
  interfaces := #[]
  cf := some (fileOf pool5 2 #[] #[] 1537 4 #[] #[])
  fields := #[]
  methods := #[]
  instanceTypes := #[]
  staticTypes := #[]
  resolved := Array.replicate 8 none
  statics := none }

/-- the primitive byte -/
def k6 : Class := { plain "byte" none with kind := .primitive 'B', accessFlags := 0x411 }
/-- [B -/
def k7 : Class := { plain "[B" (some 0) with kind := .array 6 .byte, interfaces := #[4, 5], accessFlags := 1041 }

/-- the primitive int -/
def k8 : Class := { plain "int" none with kind := .primitive 'I', accessFlags := 0x411 }
/-- [I -/
def k9 : Class := { plain "[I" (some 0) with kind := .array 8 .int, interfaces := #[4, 5], accessFlags := 1041 }

def heap : Heap := #[]
def classes : Array Class := #[k0, k1, k2, k3, k4, k5, k6, k7, k8, k9]
def interned : List (Array UInt16 × Addr) := []
def slotsUsed : Nat := 0
def theMethod : MethodId := ⟨1, 1⟩
def args0 : Array Value := #[.int 5, .int 7, .int 9, .int 3]
def aboutOver (below : List Frame) : State where
  vm := { classes := classes, interned := interned.toArray }
  heap := heap
  slotsUsed := slotsUsed
  threads := #[{ frames := .invoking theMethod args0 :: below }]
def below0 : List Frame := [.native { method := ⟨0, 0⟩, args := #[] }]
def about1 : State := aboutOver below0
def p0 : Program := .bare "" "" ""
def e0 : Env := launch0.env 0 0 0
theorem w_frames : about1.frames = Frame.invoking theMethod args0 :: below0 := rfl
set_option maxRecDepth 65536 in
theorem w_args : argsFit about1.vm theMethod args0 = true := by decide +kernel
set_option maxRecDepth 65536 in
theorem w_heap : heapFits about1 = true := by decide +kernel
set_option maxRecDepth 65536 in
theorem w_runnable : about1.curStatus? = some .runnable := by decide +kernel
set_option maxRecDepth 65536 in
theorem w_alone : about1.alone = true := by decide +kernel
set_option maxRecDepth 65536 in
theorem w_named : about1.methodNamed? x = some theMethod := by decide +kernel
set_option maxRecDepth 65536 in
theorem w_hears : about1.hears theMethod below0 = true := by decide +kernel
set_option maxRecDepth 65536 in
theorem w_ripe : about1.ripe theMethod args0 below0 = true := by decide +kernel
theorem w_running : about1.status = .running := rfl
set_option maxRecDepth 65536 in
theorem w_room : about1.hasRoom e0.platform room_1 = true :=
  launch0.hasRoom_least _ room_1 (by decide +kernel) (by decide +kernel) (by decide +kernel) (by decide +kernel) (by decide +kernel) (by decide +kernel)
theorem allAtoms_all (ts : List Jvm.Cond) (a : Array Jvm.Value) (st : Jvm.State) : (allAtoms ts).before a st = ts.all (fun c => c.before a st) := by
  induction ts with
  | nil => rfl
  | cons c t ih =>
    show (Jvm.Cond.and c (allAtoms t)).before a st = _
    rw [Jvm.Cond.before_and, ih, List.all_cons]
def words1 : List Jvm.Cond := Jvm.Cond.code x code maxLocals ret :: tables_1
/-- a 'code' word, met by the world's own term for the bytes: nothing is compared byte by byte -/
theorem code_word {y : MethodName} {bytes : ByteArray} {mx : Nat} {rt : Option FieldType} {a : Array Value} {s : State} {m : MethodId} {meth : Method} {c : Code} (h1 : s.methodNamed? y = some m) (h2 : s.vm.method? m = some meth) (h3 : meth.code = some c) (h4 : c.code = bytes)
    (h5 : (c.maxLocals == mx && c.exceptionTable.isEmpty && decide (c.maxStack ≤ mostOperands) && decide (meth.sig.returnType = rt) && !meth.locks && decide (parseMethodDescriptor y.desc = some meth.sig)) = true) : (Jvm.Cond.code y bytes mx rt).before a s = true := by
  simp only [Bool.and_eq_true, beq_iff_eq, Bool.not_eq_true', decide_eq_true_eq] at h5
  obtain ⟨⟨⟨⟨⟨g1, g2⟩, g3⟩, g4⟩, g5⟩, g6⟩ := h5
  simp [Cond.before, Cond.holds, Cond.value, h1, h2, h3, h4, g1, g2, g3, g4, g5, g6]
def isCode : Jvm.Cond → Bool
  | .code _ _ _ _ => true
  | _ => false
theorem all_split {L : List Jvm.Cond} {P : Jvm.Cond → Bool} (h1 : L.all (fun c => isCode c || P c) = true) (h2 : ∀ c ∈ L.filter isCode, P c = true) : L.all P = true := by
  refine List.all_eq_true.mpr fun c hc => ?_
  have h := List.all_eq_true.mp h1 c hc
  rcases Bool.eq_false_or_eq_true (isCode c) with hi | hi
  · exact h2 c (List.mem_filter.mpr ⟨hc, hi⟩)
  · simpa [hi] using h
set_option maxRecDepth 65536 in
theorem w_c0 : (Jvm.Cond.code x code maxLocals ret).before args0 about1 = true := code_word (m := ⟨1, 1⟩) (meth := k1m1) (c := k1c1) (by decide +kernel) rfl rfl rfl (by decide +kernel)
set_option maxRecDepth 65536 in
theorem w_c1 : (Jvm.Cond.code ({ cls := "com/example/causeway/causeway/model/Sampler", name := "<init>", desc := "(DID)V" } : Jvm.MethodName) prog_56_method_1_code (6 : Nat) (Option.none : Option Jvm.ClassFile.FieldType)).before args0 about1 = true := code_word (m := ⟨3, 0⟩) (meth := k3m0) (c := k3c0) (by decide +kernel) rfl rfl rfl (by decide +kernel)
set_option maxRecDepth 65536 in
theorem w_c2 : (Jvm.Cond.code ({ cls := "java/lang/Record", name := "<init>", desc := "()V" } : Jvm.MethodName) jdk_30_method_1_code (1 : Nat) (Option.none : Option Jvm.ClassFile.FieldType)).before args0 about1 = true := code_word (m := ⟨2, 0⟩) (meth := k2m0) (c := k2c0) (by decide +kernel) rfl rfl rfl (by decide +kernel)
set_option maxRecDepth 65536 in
theorem w_c3 : (Jvm.Cond.code ({ cls := "java/lang/Object", name := "<init>", desc := "()V" } : Jvm.MethodName) object_method_1_code (1 : Nat) (Option.none : Option Jvm.ClassFile.FieldType)).before args0 about1 = true := code_word (m := ⟨0, 0⟩) (meth := k0m0) (c := k0c0) (by decide +kernel) rfl rfl rfl (by decide +kernel)
set_option maxRecDepth 65536 in
theorem w_c4 : (Jvm.Cond.code ({ cls := "com/example/causeway/causeway/model/Sampler", name := "heapBytes", desc := "(I)J" } : Jvm.MethodName) prog_56_method_4_code (2 : Nat) (Option.some Jvm.ClassFile.FieldType.long)).before args0 about1 = true := code_word (m := ⟨3, 1⟩) (meth := k3m1) (c := k3c1) (by decide +kernel) rfl rfl rfl (by decide +kernel)
def codes1 : List Jvm.Cond := [Jvm.Cond.code x code maxLocals ret, Jvm.Cond.code ({ cls := "com/example/causeway/causeway/model/Sampler", name := "<init>", desc := "(DID)V" } : Jvm.MethodName) prog_56_method_1_code (6 : Nat) (Option.none : Option Jvm.ClassFile.FieldType), Jvm.Cond.code ({ cls := "java/lang/Record", name := "<init>", desc := "()V" } : Jvm.MethodName) jdk_30_method_1_code (1 : Nat) (Option.none : Option Jvm.ClassFile.FieldType), Jvm.Cond.code ({ cls := "java/lang/Object", name := "<init>", desc := "()V" } : Jvm.MethodName) object_method_1_code (1 : Nat) (Option.none : Option Jvm.ClassFile.FieldType), Jvm.Cond.code ({ cls := "com/example/causeway/causeway/model/Sampler", name := "heapBytes", desc := "(I)J" } : Jvm.MethodName) prog_56_method_4_code (2 : Nat) (Option.some Jvm.ClassFile.FieldType.long)]
set_option maxRecDepth 65536 in
theorem codes_eq : words1.filter isCode = codes1 := rfl
theorem w_codes : ∀ c ∈ words1.filter isCode, c.before args0 about1 = true := by
  rw [codes_eq]
  intro c hc
  simp only [codes1, List.mem_cons, List.not_mem_nil, or_false] at hc
  rcases hc with rfl | rfl | rfl | rfl | rfl
  · exact w_c0
  · exact w_c1
  · exact w_c2
  · exact w_c3
  · exact w_c4
set_option maxRecDepth 65536 in
theorem w_t1 : (words1.take 24).all (fun c => isCode c || c.before args0 about1) = true := by decide +kernel
set_option maxRecDepth 65536 in
theorem w_t2 : (words1.drop 24).all (fun c => isCode c || c.before args0 about1) = true := by decide +kernel
theorem w_tables : (allAtoms (Jvm.Cond.code x code maxLocals ret :: tables_1)).before args0 about1 = true := by
  rw [allAtoms_all]
  show words1.all (fun c => c.before args0 about1) = true
  refine all_split ?_ w_codes
  rw [← List.take_append_drop 24 words1, List.all_append, w_t1, w_t2]
  rfl
set_option maxRecDepth 65536 in
theorem w_case : (Jvm.Cond.and given_1 narrow_1).before args0 about1 = true := by decide +kernel
theorem w_applies : (headSpec (Jvm.Cond.code x code maxLocals ret :: tables_1) room_1).applies x e0.platform about1 = true :=
  (Spec.applies_iff w_frames).mpr ⟨w_running, w_runnable, w_alone, w_named, w_hears, w_ripe, w_room, w_tables⟩
theorem atStart : AtStart classFile x code maxLocals ret World_1 tables_1 room_1 Calls_1 rest_1 Pre_1 launch0 p0 e0 about1 theMethod args0 below0 :=
  ⟨lists_1, trivial, launch0.admits_env _ _ _, launch0.least_env, fairChoices_fair.cas, fairChoices_fair.clock, w_frames, w_args, w_heap, w_applies, trivial, trivial, w_case⟩
end start1
theorem witness_1 : WitnessClaimed_1 := ⟨start1.p0, start1.e0, start1.about1, start1.theMethod, start1.args0, start1.below0, start1.atStart⟩
end Jvm.Pilot.@@N@@
