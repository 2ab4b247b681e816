import JvmDerived
import JvmDerived.Pilot.@@N@@Statement
import JvmDerived.Pilot.@@N@@Code
set_option linter.unusedVariables false
set_option linter.unusedSimpArgs false
namespace Jvm.Pilot.@@N@@
open Jvm Jvm.ClassFile Sem Op Lib Jvm.Free Jvm.Stand Jvm.LawKit Jvm.RoadKit Bundle Jvm.Pilot.@@N@@.Jvm.D
section OwnKit
variable {p : Program} {l : Launch} {e : Env} {R : Room} {s : State} {m : MethodId} {args : Array Value} {below : List Frame} {meth : Method} {c : Code} {T T' : State} {locs : List Loc} {cells slots : Nat} {Z : State} {a0 : Array Value} {h h' : Heap} {CC SS : Nat} {Q : Option Value → Heap → List Loc → Prop} {P : State → Prop} {g g' : JFrame} {pc q : Nat} {Ls l' : Array Slot} {st stk rest argsL : List Value}
/-- the run from here comes to a state of which P holds -/
def Go (p : Program) (e : Env) (below : List Frame) (P : State → Prop) (T : State) (g : JFrame) : Prop := ∃ s₂, Steps p.tables e below (T.setTop g) s₂ ∧ P s₂
/-- it ended by a return, and what it leaves is Q -/
def PN (below : List Frame) (s : State) (CC SS : Nat) (Q : Option Value → Heap → List Loc → Prop) (s₂ : State) : Prop :=
  s₂.status = .running ∧ ∃ v L, Ended s₂ below (.returned v) ∧ Q v s₂.heap L ∧ FrameEnd s (.returned v) s₂ L CC SS
theorem Go.back (K : Go p e below P T' g') (k : ∀ t, Steps p.tables e below (T'.setTop g') t → Steps p.tables e below (T.setTop g) t) : Go p e below P T g := by
  obtain ⟨s₂, h1, h2⟩ := K
  exact ⟨s₂, k _ h1, h2⟩
theorem own_le {n0 : Nat} (X : Old Z n0 h) : n0 ≤ h.size := X.1 ▸ X.2.1
theorem own_ge {n0 a : Nat} (X : Old Z n0 h) (g : a = h.size) : n0 ≤ a := g ▸ own_le X
theorem own_lt {a b : Nat} {h : Heap} (g : b = h.size) (k : a < h.size) : a ≠ b := by rw [g]; exact Nat.ne_of_lt k
theorem own_ltg {a b : Nat} {h : Heap} (g : h.size ≤ b) (k : a < h.size) : a ≠ b := Nat.ne_of_lt (Nat.lt_of_lt_of_le k g)
/-- what a body's walk shows -/
def Con (l : Launch) (Z : State) (y : MethodName) (bytes : ByteArray) (maxL : Nat) (ret : Option FieldType) (rm : Room) (as' : Array Value) (h0 : Heap) (Q : Option Value → Heap → List Loc → Prop) : Prop :=
  ∀ ws : List Jvm.Cond, MetFree l y (head1 (Jvm.Cond.code y bytes maxL ret :: ws) rm) (fun a U => a = as' ∧ Z.Warmed39 U.vm ∧ U.heap = h0) (fun _ _ _ _ _ => True) (fun _ U o U' => ∃ v L, o = .returned v ∧ Q v U'.heap L ∧ FrameEnd U o U' L rm.cells rm.slots)
theorem Con.of {y : MethodName} {bytes : ByteArray} {maxL : Nat} {ret : Option FieldType} {rm : Room} {as' : Array Value} {h0 : Heap} (hpl : plainFor y = true)
    (body : ∀ p e s m below meth c s₁, p.tables.exec = Jvm.exec → c.code = bytes → c.maxLocals = maxL → Z.Warmed39 s.vm → s.vm.findClass y.cls = some m.cls → meth.name = y.name → meth.sig.returnType = ret → meth.locks = false → Stand p l e rm s m as' below meth c s₁ [] 0 0 → s₁.heap = h0 → Go p e below (PN below s rm.cells rm.slots Q) s₁ (entryFrame m as' maxL)) : Con l Z y bytes maxL ret rm as' h0 Q := by
  intro ws
  refine MetFree.of_bodySF hpl hisR ?_
  intro p e s m args below meth c s₁ Bd hml0 hP hK
  obtain ⟨rfl, hZ, hh⟩ := hP
  obtain ⟨s₂, h1, h2, v, L, h3, h4, h5⟩ := body p e s m below meth c s₁ Bd.exec Bd.bytes hml0 hZ (findClass_of_methodNamed Bd.named) (name_of_methodNamed Bd.named Bd.method).1 Bd.returns Bd.notSynchronized (Stand.of_body Bd) (by rw [← hh, Bd.state]; rfl)
  exact ⟨s₂, _, h1, h2, h3, v, L, rfl, h4, h5⟩
theorem go_cast (K : Go p e below P T g') (k : g = g') : Go p e below P T g := k ▸ K
theorem go_ret0 (X : Stand p l e R s m args below meth c T locs cells slots) (hx : p.tables.exec = Jvm.exec) (hret : meth.sig.returnType = none) (hlk : meth.locks = false) (eT : T.heap = h) (hd : decode c.code pc = .ok (.return_, 1)) (hc : cells ≤ CC) (hs : slots ≤ SS) (hQ : Q none h locs) : Go p e below (PN below s CC SS Q) T (mkF m pc Ls []) := by
  obtain ⟨fs, hr, hrun, hended, hW, hsame⟩ := X.leave (v := none) (fun _ => rfl) hlk
  exact ⟨_, X.returnOut hx hret hd hr, hrun, _, _, hended, by rw [← eT] at hQ; exact hQ, ⟨_, rfl⟩, hW, hsame.mono hc hs⟩
theorem go_retA {t : FieldType} {w : Value} (X : Stand p l e R s m args below meth c T locs cells slots) (hx : p.tables.exec = Jvm.exec) (hret : meth.sig.returnType = some t) (hlk : meth.locks = false) (eT : T.heap = h) (hd : decode c.code pc = .ok (.areturn, 1)) (ht : t.isReference = true) (hw : w.isRef = true) (hn : narrow t w = w) (hc : cells ≤ CC) (hs : slots ≤ SS) (hQ : Q (some w) h locs) : Go p e below (PN below s CC SS Q) T (mkF m pc Ls (w :: st)) := by
  obtain ⟨fs, hr, hrun, hended, hW, hsame⟩ := X.leave (v := some w) (fun z => by rw [hret] at z; cases z) hlk
  exact ⟨_, retOut X hx hret hn (Or.inr (Or.inr (Or.inr (Or.inr ⟨rfl, ht, hw⟩)))) hd hr, hrun, _, _, hended, by rw [← eT] at hQ; exact hQ, ⟨_, rfl⟩, hW, hsame.mono hc hs⟩
theorem go_retI {t : FieldType} {z : Int32} (X : Stand p l e R s m args below meth c T locs cells slots) (hx : p.tables.exec = Jvm.exec) (hret : meth.sig.returnType = some t) (hlk : meth.locks = false) (eT : T.heap = h) (hd : decode c.code pc = .ok (.ireturn, 1)) (ht : t = .int ∨ t = .boolean ∨ t = .byte ∨ t = .char ∨ t = .short) (hn : narrow t (.int z) = .int z) (hc : cells ≤ CC) (hs : slots ≤ SS) (hQ : Q (some (.int z)) h locs) : Go p e below (PN below s CC SS Q) T (mkF m pc Ls (.int z :: st)) := by
  obtain ⟨fs, hr, hrun, hended, hW, hsame⟩ := X.leave (v := some (.int z)) (fun z => by rw [hret] at z; cases z) hlk
  exact ⟨_, retOut X hx hret hn (Or.inl ⟨rfl, ht, z, rfl⟩) hd hr, hrun, _, _, hended, by rw [← eT] at hQ; exact hQ, ⟨_, rfl⟩, hW, hsame.mono hc hs⟩
theorem go_retL {z : Int64} (X : Stand p l e R s m args below meth c T locs cells slots) (hx : p.tables.exec = Jvm.exec) (hret : meth.sig.returnType = some .long) (hlk : meth.locks = false) (eT : T.heap = h) (hd : decode c.code pc = .ok (.lreturn, 1)) (hc : cells ≤ CC) (hs : slots ≤ SS) (hQ : Q (some (.long z)) h locs) : Go p e below (PN below s CC SS Q) T (mkF m pc Ls (.long z :: st)) := by
  obtain ⟨fs, hr, hrun, hended, hW, hsame⟩ := X.leave (v := some (.long z)) (fun z => by rw [hret] at z; cases z) hlk
  exact ⟨_, retOut X hx hret rfl (Or.inr (Or.inl ⟨rfl, rfl, z, rfl⟩)) hd hr, hrun, _, _, hended, by rw [← eT] at hQ; exact hQ, ⟨_, rfl⟩, hW, hsame.mono hc hs⟩
theorem go_aload_n {k : Fin 4} {v : Value} (X : Stand p l e R s m args below meth c T locs cells slots) (hx : p.tables.exec = Jvm.exec) (hd : decode c.code pc = .ok (.aload_n k, 1)) (hl : Ls[k.val]? = some (.val v)) (hv : v.isRef = true) (hq : pc + 1 = q) (K : Go p e below P T (mkF m q Ls (v :: st))) : Go p e below P T (mkF m pc Ls st) := by
  subst hq; exact K.back fun _ j => XS.aloadN X.here hx rfl hd hl hv j
theorem go_aload {k : Nat} {v : Value} (X : Stand p l e R s m args below meth c T locs cells slots) (hx : p.tables.exec = Jvm.exec) (hd : decode c.code pc = .ok (.aload k, 2)) (hl : Ls[k]? = some (.val v)) (hv : v.isRef = true) (hq : pc + 2 = q) (K : Go p e below P T (mkF m q Ls (v :: st))) : Go p e below P T (mkF m pc Ls st) := by
  subst hq; exact K.back fun _ j => XS.aload X.here hx rfl hd hl hv j
theorem go_iload_n {k : Fin 4} {v : Int32} (X : Stand p l e R s m args below meth c T locs cells slots) (hx : p.tables.exec = Jvm.exec) (hd : decode c.code pc = .ok (.iload_n k, 1)) (hl : Ls[k.val]? = some (.val (.int v))) (hq : pc + 1 = q) (K : Go p e below P T (mkF m q Ls (.int v :: st))) : Go p e below P T (mkF m pc Ls st) := by
  subst hq; exact K.back fun _ j => XS.iloadN X.here hx rfl hd hl j
theorem go_iload {k : Nat} {v : Int32} (X : Stand p l e R s m args below meth c T locs cells slots) (hx : p.tables.exec = Jvm.exec) (hd : decode c.code pc = .ok (.iload k, 2)) (hl : Ls[k]? = some (.val (.int v))) (hq : pc + 2 = q) (K : Go p e below P T (mkF m q Ls (.int v :: st))) : Go p e below P T (mkF m pc Ls st) := by
  subst hq; exact K.back fun _ j => XS.iload X.here hx rfl hd hl j
theorem go_lload_n {k : Fin 4} {v : Int64} (X : Stand p l e R s m args below meth c T locs cells slots) (hx : p.tables.exec = Jvm.exec) (hd : decode c.code pc = .ok (.lload_n k, 1)) (hl : Ls[k.val]? = some (.val (.long v))) (hq : pc + 1 = q) (K : Go p e below P T (mkF m q Ls (.long v :: st))) : Go p e below P T (mkF m pc Ls st) := by
  subst hq; exact K.back fun _ j => XT.lloadN X.here hx rfl hd hl j
theorem go_lload {k : Nat} {v : Int64} (X : Stand p l e R s m args below meth c T locs cells slots) (hx : p.tables.exec = Jvm.exec) (hd : decode c.code pc = .ok (.lload k, 2)) (hl : Ls[k]? = some (.val (.long v))) (hq : pc + 2 = q) (K : Go p e below P T (mkF m q Ls (.long v :: st))) : Go p e below P T (mkF m pc Ls st) := by
  subst hq; exact K.back fun _ j => XT.lload X.here hx rfl hd hl j
theorem go_istore_n {k : Fin 4} {x : Int32} (X : Stand p l e R s m args below meth c T locs cells slots) (hx : p.tables.exec = Jvm.exec) (hd : decode c.code pc = .ok (.istore_n k, 1)) (hl : storeLocals Ls k.val (.int x) = some l') (hq : pc + 1 = q) (K : Go p e below P T (mkF m q l' st)) : Go p e below P T (mkF m pc Ls (.int x :: st)) := by
  subst hq; exact K.back fun _ j => XS.istoreN X.here hx rfl hd rfl hl j
theorem go_istore {k : Nat} {x : Int32} (X : Stand p l e R s m args below meth c T locs cells slots) (hx : p.tables.exec = Jvm.exec) (hd : decode c.code pc = .ok (.istore k, 2)) (hl : storeLocals Ls k (.int x) = some l') (hq : pc + 2 = q) (K : Go p e below P T (mkF m q l' st)) : Go p e below P T (mkF m pc Ls (.int x :: st)) := by
  subst hq; exact K.back fun _ j => XS.istore X.here hx rfl hd rfl hl j
theorem go_astore_n {k : Fin 4} {x : Value} (X : Stand p l e R s m args below meth c T locs cells slots) (hx : p.tables.exec = Jvm.exec) (hd : decode c.code pc = .ok (.astore_n k, 1)) (hv : x.isRef = true) (hl : storeLocals Ls k.val x = some l') (hq : pc + 1 = q) (K : Go p e below P T (mkF m q l' st)) : Go p e below P T (mkF m pc Ls (x :: st)) := by
  subst hq; exact K.back fun _ j => XS.astoreN X.here hx rfl hd rfl hv hl j
theorem go_astore {k : Nat} {x : Value} (X : Stand p l e R s m args below meth c T locs cells slots) (hx : p.tables.exec = Jvm.exec) (hd : decode c.code pc = .ok (.astore k, 2)) (hv : x.isRef = true) (hl : storeLocals Ls k x = some l') (hq : pc + 2 = q) (K : Go p e below P T (mkF m q l' st)) : Go p e below P T (mkF m pc Ls (x :: st)) := by
  subst hq; exact K.back fun _ j => XS.astore X.here hx rfl hd rfl hv hl j
theorem go_lstore_n {k : Fin 4} {x : Int64} (X : Stand p l e R s m args below meth c T locs cells slots) (hx : p.tables.exec = Jvm.exec) (hd : decode c.code pc = .ok (.lstore_n k, 1)) (hl : storeLocals Ls k.val (.long x) = some l') (hq : pc + 1 = q) (K : Go p e below P T (mkF m q l' st)) : Go p e below P T (mkF m pc Ls (.long x :: st)) := by
  subst hq; exact K.back fun _ j => XT.lstoreN X.here hx rfl hd rfl hl j
theorem go_lstore {k : Nat} {x : Int64} (X : Stand p l e R s m args below meth c T locs cells slots) (hx : p.tables.exec = Jvm.exec) (hd : decode c.code pc = .ok (.lstore k, 2)) (hl : storeLocals Ls k (.long x) = some l') (hq : pc + 2 = q) (K : Go p e below P T (mkF m q l' st)) : Go p e below P T (mkF m pc Ls (.long x :: st)) := by
  subst hq; exact K.back fun _ j => XT.lstore X.here hx rfl hd rfl hl j
theorem go_iconst {i : Int} {v : Int32} (X : Stand p l e R s m args below meth c T locs cells slots) (hx : p.tables.exec = Jvm.exec) (hd : decode c.code pc = .ok (.iconst i, 1)) (hv : Int32.ofInt i = v) (hq : pc + 1 = q) (K : Go p e below P T (mkF m q Ls (.int v :: st))) : Go p e below P T (mkF m pc Ls st) := by
  subst hq; exact K.back fun _ j => XT.iconstV X.here hx rfl v hd hv j
theorem go_bipush {i : Int} {v : Int32} (X : Stand p l e R s m args below meth c T locs cells slots) (hx : p.tables.exec = Jvm.exec) (hd : decode c.code pc = .ok (.bipush i, 2)) (hv : (Int8.ofInt i).toInt32 = v) (hq : pc + 2 = q) (K : Go p e below P T (mkF m q Ls (.int v :: st))) : Go p e below P T (mkF m pc Ls st) := by
  subst hq; exact K.back fun _ j => XT.bipushV X.here hx rfl v hd hv j
theorem go_sipush {i : Int} {v : Int32} (X : Stand p l e R s m args below meth c T locs cells slots) (hx : p.tables.exec = Jvm.exec) (hd : decode c.code pc = .ok (.sipush i, 3)) (hv : (Int16.ofInt i).toInt32 = v) (hq : pc + 3 = q) (K : Go p e below P T (mkF m q Ls (.int v :: st))) : Go p e below P T (mkF m pc Ls st) := by
  subst hq; exact K.back fun _ j => XT.sipushV X.here hx rfl v hd hv j
theorem go_lconst {k : Fin 2} {v : Int64} (X : Stand p l e R s m args below meth c T locs cells slots) (hx : p.tables.exec = Jvm.exec) (hd : decode c.code pc = .ok (.lconst k, 1)) (hv : Int64.ofNat k = v) (hq : pc + 1 = q) (K : Go p e below P T (mkF m q Ls (.long v :: st))) : Go p e below P T (mkF m pc Ls st) := by
  subst hq; exact K.back fun _ j => XT.lconstV X.here hx rfl v hd hv j
theorem go_aconst_null  (X : Stand p l e R s m args below meth c T locs cells slots) (hx : p.tables.exec = Jvm.exec) (hd : decode c.code pc = .ok (.aconst_null, 1))  (hq : pc + 1 = q) (K : Go p e below P T (mkF m q Ls (.null :: st))) : Go p e below P T (mkF m pc Ls st) := by
  subst hq; exact K.back fun _ j => XS.aconstNull X.here hx rfl hd j
theorem go_iadd {x y v : Int32} (X : Stand p l e R s m args below meth c T locs cells slots) (hx : p.tables.exec = Jvm.exec) (hd : decode c.code pc = .ok (.iadd, 1)) (hv : x + y = v) (hq : pc + 1 = q) (K : Go p e below P T (mkF m q Ls (.int v :: st))) : Go p e below P T (mkF m pc Ls (.int y :: .int x :: st)) := by
  subst hq; exact K.back fun _ j => XS.iadd X.here hx rfl hd rfl (hv ▸ j)
theorem go_isub {x y v : Int32} (X : Stand p l e R s m args below meth c T locs cells slots) (hx : p.tables.exec = Jvm.exec) (hd : decode c.code pc = .ok (.isub, 1)) (hv : x - y = v) (hq : pc + 1 = q) (K : Go p e below P T (mkF m q Ls (.int v :: st))) : Go p e below P T (mkF m pc Ls (.int y :: .int x :: st)) := by
  subst hq; exact K.back fun _ j => XS.isub X.here hx rfl hd rfl (hv ▸ j)
theorem go_imul {x y v : Int32} (X : Stand p l e R s m args below meth c T locs cells slots) (hx : p.tables.exec = Jvm.exec) (hd : decode c.code pc = .ok (.imul, 1)) (hv : x * y = v) (hq : pc + 1 = q) (K : Go p e below P T (mkF m q Ls (.int v :: st))) : Go p e below P T (mkF m pc Ls (.int y :: .int x :: st)) := by
  subst hq; exact K.back fun _ j => XS.imul X.here hx rfl hd rfl (hv ▸ j)
theorem go_iand {x y v : Int32} (X : Stand p l e R s m args below meth c T locs cells slots) (hx : p.tables.exec = Jvm.exec) (hd : decode c.code pc = .ok (.iand, 1)) (hv : x &&& y = v) (hq : pc + 1 = q) (K : Go p e below P T (mkF m q Ls (.int v :: st))) : Go p e below P T (mkF m pc Ls (.int y :: .int x :: st)) := by
  subst hq; exact K.back fun _ j => XS.iand X.here hx rfl hd rfl (hv ▸ j)
theorem go_ior {x y v : Int32} (X : Stand p l e R s m args below meth c T locs cells slots) (hx : p.tables.exec = Jvm.exec) (hd : decode c.code pc = .ok (.ior, 1)) (hv : x ||| y = v) (hq : pc + 1 = q) (K : Go p e below P T (mkF m q Ls (.int v :: st))) : Go p e below P T (mkF m pc Ls (.int y :: .int x :: st)) := by
  subst hq; exact K.back fun _ j => XT.ior X.here hx rfl hd rfl (hv ▸ j)
theorem go_ixor {x y v : Int32} (X : Stand p l e R s m args below meth c T locs cells slots) (hx : p.tables.exec = Jvm.exec) (hd : decode c.code pc = .ok (.ixor, 1)) (hv : x ^^^ y = v) (hq : pc + 1 = q) (K : Go p e below P T (mkF m q Ls (.int v :: st))) : Go p e below P T (mkF m pc Ls (.int y :: .int x :: st)) := by
  subst hq; exact K.back fun _ j => XT.ixor X.here hx rfl hd rfl (hv ▸ j)
theorem go_ishl {x y v : Int32} (X : Stand p l e R s m args below meth c T locs cells slots) (hx : p.tables.exec = Jvm.exec) (hd : decode c.code pc = .ok (.ishl, 1)) (hv : x <<< (y &&& 31) = v) (hq : pc + 1 = q) (K : Go p e below P T (mkF m q Ls (.int v :: st))) : Go p e below P T (mkF m pc Ls (.int y :: .int x :: st)) := by
  subst hq; exact K.back fun _ j => XT.ishl X.here hx rfl hd rfl (hv ▸ j)
theorem go_ishr {x y v : Int32} (X : Stand p l e R s m args below meth c T locs cells slots) (hx : p.tables.exec = Jvm.exec) (hd : decode c.code pc = .ok (.ishr, 1)) (hv : x >>> (y &&& 31) = v) (hq : pc + 1 = q) (K : Go p e below P T (mkF m q Ls (.int v :: st))) : Go p e below P T (mkF m pc Ls (.int y :: .int x :: st)) := by
  subst hq; exact K.back fun _ j => XT.ishr X.here hx rfl hd rfl (hv ▸ j)
theorem go_iushr {x y v : Int32} (X : Stand p l e R s m args below meth c T locs cells slots) (hx : p.tables.exec = Jvm.exec) (hd : decode c.code pc = .ok (.iushr, 1)) (hv : XT.ushr x y = v) (hq : pc + 1 = q) (K : Go p e below P T (mkF m q Ls (.int v :: st))) : Go p e below P T (mkF m pc Ls (.int y :: .int x :: st)) := by
  subst hq; exact K.back fun _ j => XT.iushr X.here hx rfl hd rfl (hv ▸ j)
theorem go_irem {x y : Int32} (X : Stand p l e R s m args below meth c T locs cells slots) (hx : p.tables.exec = Jvm.exec) (hd : decode c.code pc = .ok (.irem, 1)) (hy : y ≠ 0) (hq : pc + 1 = q) (K : Go p e below P T (mkF m q Ls (.int (x % y) :: st))) : Go p e below P T (mkF m pc Ls (.int y :: .int x :: st)) := by
  subst hq; exact K.back fun _ j => RoadKit.iremM X hx rfl hd rfl hy j
theorem go_idiv {x y : Int32} (X : Stand p l e R s m args below meth c T locs cells slots) (hx : p.tables.exec = Jvm.exec) (hd : decode c.code pc = .ok (.idiv, 1)) (hy : y ≠ 0) (hq : pc + 1 = q) (K : Go p e below P T (mkF m q Ls (.int (x / y) :: st))) : Go p e below P T (mkF m pc Ls (.int y :: .int x :: st)) := by
  subst hq; exact K.back fun _ j => XS.idiv X.here hx rfl hd rfl hy j
theorem go_i2c {x v : Int32} (X : Stand p l e R s m args below meth c T locs cells slots) (hx : p.tables.exec = Jvm.exec) (hd : decode c.code pc = .ok (.i2c, 1)) (hv : x.toUInt32.toUInt16.toUInt32.toInt32 = v) (hq : pc + 1 = q) (K : Go p e below P T (mkF m q Ls (.int v :: st))) : Go p e below P T (mkF m pc Ls (.int x :: st)) := by
  subst hq; exact K.back fun _ j => XT.i2c X.here hx rfl hd rfl (hv ▸ j)
theorem go_i2b {x v : Int32} (X : Stand p l e R s m args below meth c T locs cells slots) (hx : p.tables.exec = Jvm.exec) (hd : decode c.code pc = .ok (.i2b, 1)) (hv : x.toInt8.toInt32 = v) (hq : pc + 1 = q) (K : Go p e below P T (mkF m q Ls (.int v :: st))) : Go p e below P T (mkF m pc Ls (.int x :: st)) := by
  subst hq; exact K.back fun _ j => XT.i2b X.here hx rfl hd rfl (hv ▸ j)
theorem go_i2l {x : Int32} (X : Stand p l e R s m args below meth c T locs cells slots) (hx : p.tables.exec = Jvm.exec) (hd : decode c.code pc = .ok (.i2l, 1))  (hq : pc + 1 = q) (K : Go p e below P T (mkF m q Ls (.long x.toInt64 :: st))) : Go p e below P T (mkF m pc Ls (.int x :: st)) := by
  subst hq; exact K.back fun _ j => XT.i2l X.here hx rfl hd rfl j
theorem go_ladd {x y : Int64} (X : Stand p l e R s m args below meth c T locs cells slots) (hx : p.tables.exec = Jvm.exec) (hd : decode c.code pc = .ok (.ladd, 1))  (hq : pc + 1 = q) (K : Go p e below P T (mkF m q Ls (.long (x + y) :: st))) : Go p e below P T (mkF m pc Ls (.long y :: .long x :: st)) := by
  subst hq; exact K.back fun _ j => XT.ladd X.here hx rfl hd rfl j
theorem go_lsub {x y : Int64} (X : Stand p l e R s m args below meth c T locs cells slots) (hx : p.tables.exec = Jvm.exec) (hd : decode c.code pc = .ok (.lsub, 1))  (hq : pc + 1 = q) (K : Go p e below P T (mkF m q Ls (.long (x - y) :: st))) : Go p e below P T (mkF m pc Ls (.long y :: .long x :: st)) := by
  subst hq; exact K.back fun _ j => XT.lsub X.here hx rfl hd rfl j
theorem go_lmul {x y : Int64} (X : Stand p l e R s m args below meth c T locs cells slots) (hx : p.tables.exec = Jvm.exec) (hd : decode c.code pc = .ok (.lmul, 1))  (hq : pc + 1 = q) (K : Go p e below P T (mkF m q Ls (.long (x * y) :: st))) : Go p e below P T (mkF m pc Ls (.long y :: .long x :: st)) := by
  subst hq; exact K.back fun _ j => XT.lmul X.here hx rfl hd rfl j
theorem go_land {x y : Int64} (X : Stand p l e R s m args below meth c T locs cells slots) (hx : p.tables.exec = Jvm.exec) (hd : decode c.code pc = .ok (.land, 1))  (hq : pc + 1 = q) (K : Go p e below P T (mkF m q Ls (.long (x &&& y) :: st))) : Go p e below P T (mkF m pc Ls (.long y :: .long x :: st)) := by
  subst hq; exact K.back fun _ j => XT.land X.here hx rfl hd rfl j
theorem go_lor {x y : Int64} (X : Stand p l e R s m args below meth c T locs cells slots) (hx : p.tables.exec = Jvm.exec) (hd : decode c.code pc = .ok (.lor, 1))  (hq : pc + 1 = q) (K : Go p e below P T (mkF m q Ls (.long (x ||| y) :: st))) : Go p e below P T (mkF m pc Ls (.long y :: .long x :: st)) := by
  subst hq; exact K.back fun _ j => XT.lor X.here hx rfl hd rfl j
theorem go_lxor {x y : Int64} (X : Stand p l e R s m args below meth c T locs cells slots) (hx : p.tables.exec = Jvm.exec) (hd : decode c.code pc = .ok (.lxor, 1))  (hq : pc + 1 = q) (K : Go p e below P T (mkF m q Ls (.long (x ^^^ y) :: st))) : Go p e below P T (mkF m pc Ls (.long y :: .long x :: st)) := by
  subst hq; exact K.back fun _ j => XT.lxor X.here hx rfl hd rfl j
theorem go_lshl {x : Int64} {y : Int32} (X : Stand p l e R s m args below meth c T locs cells slots) (hx : p.tables.exec = Jvm.exec) (hd : decode c.code pc = .ok (.lshl, 1))  (hq : pc + 1 = q) (K : Go p e below P T (mkF m q Ls (.long (x <<< (y.toInt64 &&& 63)) :: st))) : Go p e below P T (mkF m pc Ls (.int y :: .long x :: st)) := by
  subst hq; exact K.back fun _ j => XT.lshl X.here hx rfl hd rfl j
theorem go_lcmp {x y : Int64} (X : Stand p l e R s m args below meth c T locs cells slots) (hx : p.tables.exec = Jvm.exec) (hd : decode c.code pc = .ok (.lcmp, 1))  (hq : pc + 1 = q) (K : Go p e below P T (mkF m q Ls (.int (XT.cmpL x y) :: st))) : Go p e below P T (mkF m pc Ls (.long y :: .long x :: st)) := by
  subst hq; exact K.back fun _ j => XT.lcmp X.here hx rfl hd rfl j
theorem go_dload_n {k : Fin 4} {v : UInt64} (X : Stand p l e R s m args below meth c T locs cells slots) (hx : p.tables.exec = Jvm.exec) (hd : decode c.code pc = .ok (.dload_n k, 1)) (hl : Ls[k.val]? = some (.val (.double v))) (hq : pc + 1 = q) (K : Go p e below P T (mkF m q Ls (.double v :: st))) : Go p e below P T (mkF m pc Ls st) := by
  subst hq; exact K.back fun _ j => XS.dloadN X.here hx rfl hd hl j
theorem go_dload {k : Nat} {v : UInt64} (X : Stand p l e R s m args below meth c T locs cells slots) (hx : p.tables.exec = Jvm.exec) (hd : decode c.code pc = .ok (.dload k, 2)) (hl : Ls[k]? = some (.val (.double v))) (hq : pc + 2 = q) (K : Go p e below P T (mkF m q Ls (.double v :: st))) : Go p e below P T (mkF m pc Ls st) := by
  subst hq; exact K.back fun _ j => XS.dload X.here hx rfl hd hl j
theorem go_dstore_n {k : Fin 4} {x : UInt64} (X : Stand p l e R s m args below meth c T locs cells slots) (hx : p.tables.exec = Jvm.exec) (hd : decode c.code pc = .ok (.dstore_n k, 1)) (hl : storeLocals Ls k.val (.double x) = some l') (hq : pc + 1 = q) (K : Go p e below P T (mkF m q l' st)) : Go p e below P T (mkF m pc Ls (.double x :: st)) := by
  subst hq; exact K.back fun _ j => XS.dstoreN X.here hx rfl hd rfl hl j
theorem go_dstore {k : Nat} {x : UInt64} (X : Stand p l e R s m args below meth c T locs cells slots) (hx : p.tables.exec = Jvm.exec) (hd : decode c.code pc = .ok (.dstore k, 2)) (hl : storeLocals Ls k (.double x) = some l') (hq : pc + 2 = q) (K : Go p e below P T (mkF m q l' st)) : Go p e below P T (mkF m pc Ls (.double x :: st)) := by
  subst hq; exact K.back fun _ j => XS.dstore X.here hx rfl hd rfl hl j
theorem go_dconst0 {v : UInt64} (X : Stand p l e R s m args below meth c T locs cells slots) (hx : p.tables.exec = Jvm.exec) (hd : decode c.code pc = .ok (.dconst 0, 1)) (hv : FP.dconst0 = v) (hq : pc + 1 = q) (K : Go p e below P T (mkF m q Ls (.double v :: st))) : Go p e below P T (mkF m pc Ls st) := by
  subst hq; exact K.back fun _ j => XS.dconst0 X.here hx rfl hd hv j
theorem go_dconst1 {v : UInt64} (X : Stand p l e R s m args below meth c T locs cells slots) (hx : p.tables.exec = Jvm.exec) (hd : decode c.code pc = .ok (.dconst 1, 1)) (hv : FP.dconst1 = v) (hq : pc + 1 = q) (K : Go p e below P T (mkF m q Ls (.double v :: st))) : Go p e below P T (mkF m pc Ls st) := by
  subst hq; exact K.back fun _ j => XS.dconst1 X.here hx rfl hd hv j
theorem go_i2d {x : Int32} (X : Stand p l e R s m args below meth c T locs cells slots) (hx : p.tables.exec = Jvm.exec) (hd : decode c.code pc = .ok (.i2d, 1))  (hq : pc + 1 = q) (K : Go p e below P T (mkF m q Ls (.double (FP.i2d x) :: st))) : Go p e below P T (mkF m pc Ls (.int x :: st)) := by
  subst hq; exact K.back fun _ j => XS.i2dS X.here hx rfl hd rfl rfl j
theorem go_dcmp {o : CmpOp} {x y : UInt64} (X : Stand p l e R s m args below meth c T locs cells slots) (hx : p.tables.exec = Jvm.exec) (hd : decode c.code pc = .ok (.dcmp o, 1))  (hq : pc + 1 = q) (K : Go p e below P T (mkF m q Ls (.int (cmpValue (FP.dcmp x y) o) :: st))) : Go p e below P T (mkF m pc Ls (.double y :: .double x :: st)) := by
  subst hq; exact K.back fun _ j => XS.dcmpS X.here hx rfl hd rfl rfl j
theorem go_ddiv {x y : UInt64} (X : Stand p l e R s m args below meth c T locs cells slots) (hx : p.tables.exec = Jvm.exec) (hd : decode c.code pc = .ok (.ddiv, 1)) (hn : Jvm.Free.Fl.NoNaN64 (FP.ddiv x y)) (hq : pc + 1 = q) (K : Go p e below P T (mkF m q Ls (.double (FP.ddiv x y) :: st))) : Go p e below P T (mkF m pc Ls (.double y :: .double x :: st)) := by
  subst hq; exact K.back fun _ j => XS.ddivS X.here hx rfl hd rfl hn rfl j
theorem go_iinc {k : Nat} {cst : Int} {x v : Int32} (X : Stand p l e R s m args below meth c T locs cells slots) (hx : p.tables.exec = Jvm.exec) (hd : decode c.code pc = .ok (.iinc k cst, 3)) (hl : Ls[k]? = some (.val (.int x))) (hv : x + Int32.ofInt cst = v) (hl' : storeLocals Ls k (.int v) = some l') (hq : pc + 3 = q) (K : Go p e below P T (mkF m q l' st)) : Go p e below P T (mkF m pc Ls st) := by
  subst hq; exact K.back fun _ j => XS.iinc X.here hx rfl hd hl (by rw [hv]; exact hl') j
theorem go_dup {x : Value} (X : Stand p l e R s m args below meth c T locs cells slots) (hx : p.tables.exec = Jvm.exec) (hd : decode c.code pc = .ok (.dup, 1)) (hc : x.category = 1) (hq : pc + 1 = q) (K : Go p e below P T (mkF m q Ls (x :: x :: st))) : Go p e below P T (mkF m pc Ls (x :: st)) := by
  subst hq; exact K.back fun _ j => XS.dup X.here hx rfl hd rfl hc j
theorem go_dup_x1 {x y : Value} (X : Stand p l e R s m args below meth c T locs cells slots) (hx : p.tables.exec = Jvm.exec) (hd : decode c.code pc = .ok (.dup_x1, 1)) (hc : x.category = 1) (hc' : y.category = 1) (hq : pc + 1 = q) (K : Go p e below P T (mkF m q Ls (x :: y :: x :: st))) : Go p e below P T (mkF m pc Ls (x :: y :: st)) := by
  subst hq; exact K.back fun _ j => XT.dupX1 X.here hx rfl hd rfl hc hc' j
theorem go_pop {x : Value} (X : Stand p l e R s m args below meth c T locs cells slots) (hx : p.tables.exec = Jvm.exec) (hd : decode c.code pc = .ok (.pop, 1)) (hc : x.category = 1) (hq : pc + 1 = q) (K : Go p e below P T (mkF m q Ls st)) : Go p e below P T (mkF m pc Ls (x :: st)) := by
  subst hq; exact K.back fun _ j => XT.pop X.here hx rfl hd rfl hc j
theorem go_ifN {cd : ClassFile.Cond} {o : Int} {x : Int32} (X : Stand p l e R s m args below meth c T locs cells slots) (hx : p.tables.exec = Jvm.exec) (hd : decode c.code pc = .ok (.ifCond cd o, 3)) (hc : ifCond.holds cd x = false) (hq : pc + 3 = q) (K : Go p e below P T (mkF m q Ls st)) : Go p e below P T (mkF m pc Ls (.int x :: st)) := by
  subst hq; exact K.back fun _ j => XS.ifNo X.here hx rfl hd rfl hc j
theorem go_icmpN {cd : ClassFile.Cond} {o : Int} {x y : Int32} (X : Stand p l e R s m args below meth c T locs cells slots) (hx : p.tables.exec = Jvm.exec) (hd : decode c.code pc = .ok (.if_icmp cd o, 3)) (hc : if_icmp.holds cd x y = false) (hq : pc + 3 = q) (K : Go p e below P T (mkF m q Ls st)) : Go p e below P T (mkF m pc Ls (.int y :: .int x :: st)) := by
  subst hq; exact K.back fun _ j => XS.icmpNo X.here hx rfl hd rfl hc j
theorem go_ifnullN {o : Int} {b : Addr} (X : Stand p l e R s m args below meth c T locs cells slots) (hx : p.tables.exec = Jvm.exec) (hd : decode c.code pc = .ok (.ifnull o, 3))  (hq : pc + 3 = q) (K : Go p e below P T (mkF m q Ls st)) : Go p e below P T (mkF m pc Ls (.ref b :: st)) := by
  subst hq; exact K.back fun _ j => XS.ifnullNo X.here hx rfl hd rfl j
theorem go_ifnonnullN {o : Int} (X : Stand p l e R s m args below meth c T locs cells slots) (hx : p.tables.exec = Jvm.exec) (hd : decode c.code pc = .ok (.ifnonnull o, 3))  (hq : pc + 3 = q) (K : Go p e below P T (mkF m q Ls st)) : Go p e below P T (mkF m pc Ls (.null :: st)) := by
  subst hq; exact K.back fun _ j => XT.ifnonnullNo X.here hx rfl hd rfl j
theorem go_goto  {o : Int} (X : Stand p l e R s m args below meth c T locs cells slots) (hx : p.tables.exec = Jvm.exec) (hd : decode c.code pc = .ok (.goto o, 3))  (ho : 0 ≤ (pc : Int) + o) (hq : ((pc : Int) + o).toNat = q) (K : Go p e below P T (mkF m q Ls st)) : Go p e below P T (mkF m pc Ls st) :=
  K.back fun _ j => XS.goto X.here hx rfl (pc0 := pc) rfl hd ho hq j
theorem go_ifY {cd : ClassFile.Cond} {x : Int32} {o : Int} (X : Stand p l e R s m args below meth c T locs cells slots) (hx : p.tables.exec = Jvm.exec) (hd : decode c.code pc = .ok (.ifCond cd o, 3)) (hc : ifCond.holds cd x = true) (ho : 0 ≤ (pc : Int) + o) (hq : ((pc : Int) + o).toNat = q) (K : Go p e below P T (mkF m q Ls st)) : Go p e below P T (mkF m pc Ls (.int x :: st)) :=
  K.back fun _ j => XS.ifYes X.here hx rfl (pc0 := pc) rfl hd rfl hc ho hq j
theorem go_icmpY {cd : ClassFile.Cond} {x y : Int32} {o : Int} (X : Stand p l e R s m args below meth c T locs cells slots) (hx : p.tables.exec = Jvm.exec) (hd : decode c.code pc = .ok (.if_icmp cd o, 3)) (hc : if_icmp.holds cd x y = true) (ho : 0 ≤ (pc : Int) + o) (hq : ((pc : Int) + o).toNat = q) (K : Go p e below P T (mkF m q Ls st)) : Go p e below P T (mkF m pc Ls (.int y :: .int x :: st)) :=
  K.back fun _ j => XS.icmpYes X.here hx rfl (pc0 := pc) rfl hd rfl hc ho hq j
theorem go_ifnullY  {o : Int} (X : Stand p l e R s m args below meth c T locs cells slots) (hx : p.tables.exec = Jvm.exec) (hd : decode c.code pc = .ok (.ifnull o, 3))  (ho : 0 ≤ (pc : Int) + o) (hq : ((pc : Int) + o).toNat = q) (K : Go p e below P T (mkF m q Ls st)) : Go p e below P T (mkF m pc Ls (.null :: st)) :=
  K.back fun _ j => XS.ifnullYes X.here hx rfl (pc0 := pc) rfl hd rfl ho hq j
theorem go_ifnonnullY {b : Addr} {o : Int} (X : Stand p l e R s m args below meth c T locs cells slots) (hx : p.tables.exec = Jvm.exec) (hd : decode c.code pc = .ok (.ifnonnull o, 3))  (ho : 0 ≤ (pc : Int) + o) (hq : ((pc : Int) + o).toNat = q) (K : Go p e below P T (mkF m q Ls st)) : Go p e below P T (mkF m pc Ls (.ref b :: st)) :=
  K.back fun _ j => XT.ifnonnullYes X.here hx rfl (pc0 := pc) rfl hd rfl ho hq j
theorem go_ldcI {v : Int32} {own : String} {index : Nat} (X : Stand p l e R s m args below meth c T locs cells slots) (hx : p.tables.exec = Jvm.exec) (hZ : Z.Warmed39 s.vm) (hown : s.vm.findClass own = some m.cls) (w : (Cond.constant own index v).before a0 Z = true) (hd : decode c.code pc = .ok (.ldc index, 2)) (hq : pc + 2 = q) (K : Go p e below P T (mkF m q Ls (.int v :: st))) : Go p e below P T (mkF m pc Ls st) := by
  subst hq; exact K.back fun _ k => X.ldcI hx hown (mvT hZ w) rfl hd k
theorem go_ldc2J {v : Int64} {own : String} {index : Nat} (X : Stand p l e R s m args below meth c T locs cells slots) (hx : p.tables.exec = Jvm.exec) (hZ : Z.Warmed39 s.vm) (hown : s.vm.findClass own = some m.cls) (w : (Cond.constantLong own index v).before a0 Z = true) (hd : decode c.code pc = .ok (.ldc2_w index, 3)) (hq : pc + 3 = q) (K : Go p e below P T (mkF m q Ls (.long v :: st))) : Go p e below P T (mkF m pc Ls st) := by
  subst hq; exact K.back fun _ k => X.ldc2J hx hown (mvT hZ w) rfl hd k
theorem go_ldc2D {v : UInt64} {own : String} {index : Nat} (X : Stand p l e R s m args below meth c T locs cells slots) (hx : p.tables.exec = Jvm.exec) (hZ : Z.Warmed39 s.vm) (hown : s.vm.findClass own = some m.cls) (w : (Cond.constantDouble own index v).before a0 Z = true) (hd : decode c.code pc = .ok (.ldc2_w index, 3)) (hq : pc + 3 = q) (K : Go p e below P T (mkF m q Ls (.double v :: st))) : Go p e below P T (mkF m pc Ls st) := by
  subst hq; exact K.back fun t k => X.ldc2DoubleC hx hown (mvT hZ w) (g := mkF m pc Ls st) rfl hd t k
theorem own_narb (x : Int32) : nar .byte x.toInt8.toInt32 = x.toInt8.toInt32 := by simp [nar]
theorem own_eqI {first s : State} {o : Option Outcome} {idx : List Nat} {t : Term} {k : Int32} (h : (Cond.eq t (Term.int k)).value args first o s idx = some true) : t.eval args first o idx s = some (.int k) := by
  simp only [Cond.value, Term.eval] at h
  cases ht : t.eval args first o idx s with
  | none => simp [ht] at h
  | some x => cases x <;> simp [ht] at h ⊢; exact h
theorem own_eqR {first s : State} {o : Option Outcome} {idx : List Nat} {t u : Term} {b : Addr} (h : (Cond.eq t u).value args first o s idx = some true) (hu : u.eval args first o idx s = some (.ref b)) : t.eval args first o idx s = some (.ref b) := by
  simp only [Cond.value, hu] at h
  cases ht : t.eval args first o idx s with
  | none => simp [ht] at h
  | some x => cases x <;> simp [ht] at h ⊢; exact h
theorem own_narR {t : FieldType} {v : Value} (h : v.isRef = true) (ht : t.isReference = true) : narrow t v = v := by cases v <;> simp [Value.isRef] at h <;> cases t <;> first | rfl | (simp [FieldType.isReference] at ht)
theorem own_fitR {t : FieldType} {v : Value} (h : v.isRef = true) (ht : t.isReference = true) : fits t v = true := by cases v <;> simp [Value.isRef] at h <;> cases t <;> first | rfl | (simp [FieldType.isReference] at ht)
theorem go_cast1 {own KK : String} {index : Nat} {a : Addr} (X : Stand p l e R s m args below meth c T locs cells slots) (hx : p.tables.exec = Jvm.exec) (hZ : Z.Warmed39 s.vm) (hown : s.vm.findClass own = some m.cls) (w : (Cond.classLink own index KK).before a0 Z = true) (eT : T.heap = h) (F : Ins Z h a KK true) (hd : decode c.code pc = .ok (.checkcast index, 3)) (hq : pc + 3 = q)
    (K : ∀ T', Stand p l e R s m args below meth c T' locs cells slots → T'.heap = h → Go p e below P T' (mkF m q Ls (.ref a :: st))) : Go p e below P T (mkF m pc Ls (.ref a :: st)) := by
  subst hq
  obtain ⟨T', X', e', k⟩ := castY X hx hZ hown w eT F (g := mkF m pc Ls (.ref a :: st)) rfl rfl hd
  exact (K T' X' e').back k
theorem go_acmp {cd : ACond} {x y : Value} {o : Int} {same : Bool} (X : Stand p l e R s m args below meth c T locs cells slots) (hx : p.tables.exec = Jvm.exec) (hd : decode c.code pc = .ok (.if_acmp cd o, 3)) (h1 : x.isRef = true) (h2 : y.isRef = true) (hq : decide (x = y) = same) (ho : 0 ≤ (pc : Int) + o) (hp : q = if acV cd same = true then ((pc : Int) + o).toNat else pc + 3)
    (K : Go p e below P T (mkF m q Ls st)) : Go p e below P T (mkF m pc Ls (y :: x :: st)) :=
  K.back fun _ k => RoadKit.acmp X hx rfl h1 h2 rfl hd rfl hq ho hp k
theorem go_getF {own R0 O n d host : String} {index : Nat} {a : Addr} {v : Value} (X : Stand p l e R s m args below meth c T locs cells slots) (hx : p.tables.exec = Jvm.exec) (hZ : Z.Warmed39 s.vm) (hown : s.vm.findClass own = some m.cls) (w : (Cond.fieldLink own index R0 n d).before a0 Z = true ∨ (Cond.fieldLinkNest own index R0 n d host).before a0 Z = true) (via : Via Z R0 O n d) (eT : T.heap = h) (F : Fld Z h a O n d v) (hd : decode c.code pc = .ok (.getfield index, 3)) (hq : pc + 3 = q)
    (K : ∀ T', Stand p l e R s m args below meth c T' locs cells slots → T'.heap = h → Go p e below P T' (mkF m q Ls (v :: st))) : Go p e below P T (mkF m pc Ls (.ref a :: st)) := by
  subst hq
  obtain ⟨T', X', e', k⟩ := getF X hx hZ hown w via eT F (g := mkF m pc Ls (.ref a :: st)) rfl rfl hd
  exact (K T' X' e').back k
theorem go_getS {own R0 O n d host : String} {index : Nat} {v : Value} (X : Stand p l e R s m args below meth c T locs cells slots) (hx : p.tables.exec = Jvm.exec) (hZ : Z.Warmed39 s.vm) (hown : s.vm.findClass own = some m.cls) (w : (Cond.fieldLink own index R0 n d).before a0 Z = true ∨ (Cond.fieldLinkNest own index R0 n d host).before a0 Z = true) (via : Via Z R0 O n d) (eT : T.heap = h) (F : Sta Z h O n d v) (hd : decode c.code pc = .ok (.getstatic index, 3)) (hq : pc + 3 = q)
    (K : ∀ T', Stand p l e R s m args below meth c T' locs cells slots → T'.heap = h → Go p e below P T' (mkF m q Ls (v :: st))) : Go p e below P T (mkF m pc Ls st) := by
  subst hq
  obtain ⟨T', X', e', k⟩ := getS2 X hx hZ hown w via eT F (g := mkF m pc Ls st) rfl hd
  exact (K T' X' e').back k
theorem go_putF {own R0 O n d host C : String} {index kk : Nat} {ty : FieldType} {a : Addr} {v old : Value} (X : Stand p l e R s m args below meth c T locs cells slots) (hx : p.tables.exec = Jvm.exec) (hZ : Z.Warmed39 s.vm) (hown : s.vm.findClass own = some m.cls) (w : (Cond.fieldLink own index R0 n d).before a0 Z = true ∨ (Cond.fieldLinkNest own index R0 n d host).before a0 Z = true) (via : Via Z R0 O n d)
    (eT : T.heap = h) (F : Fld Z h a O n d old) (E : Exa Z h a C) (L : (Cond.lays C O n d).before a0 Z = true ∨ ((Cond.laysFinal C O n d).before a0 Z = true ∧ own = O ∧ meth.name = "<init>")) (wi : (Cond.instantiable C kk).before a0 Z = true)
    (hty : parseFieldDescriptor d = some ty) (hn : narrow ty v = v) (hf : fits ty v = true) (hd : decode c.code pc = .ok (.putfield index, 3)) (hq : pc + 3 = q)
    (K : ∀ T' h', Stand p l e R s m args below meth c T' (locs ++ [⟨a, RoadKit.slotOf Z O n d⟩]) cells slots → T'.heap = h' → Wr h h' a (RoadKit.slotOf Z O n d) v → Go p e below P T' (mkF m q Ls st)) : Go p e below P T (mkF m pc Ls (v :: .ref a :: st)) := by
  subst hq
  obtain ⟨T', h', X', e', W, k⟩ := putF X hx hZ hown w via eT F E L wi hty hn hf (g := mkF m pc Ls (v :: .ref a :: st)) rfl rfl hd
  exact (K T' h' X' e' W).back k
theorem go_new {own C : String} {index n : Nat} (X : Stand p l e R s m args below meth c T locs cells slots) (hx : p.tables.exec = Jvm.exec) (hZ : Z.Warmed39 s.vm) (hown : s.vm.findClass own = some m.cls) (w : (Cond.classLink own index C).before a0 Z = true) (wi : (Cond.instantiable C n).before a0 Z = true) (wz : (Cond.initialized C).before a0 Z = true) (eT : T.heap = h) (hd : decode c.code pc = .ok (.new index, 3)) (hc : cells + 1 ≤ R.cells) (hl : slots + n ≤ R.slots) (hq : pc + 3 = q)
    (K : ∀ T' h' a, a = h.size → Stand p l e R s m args below meth c T' locs (cells + 1) (slots + n) → T'.heap = h' → Ext h h' → Exa Z h' a C → (∀ {O nm d : String} {ty : FieldType}, Laid Z a0 C O nm d → parseFieldDescriptor d = some ty → Fld Z h' a O nm d (defaultValue ty)) → Go p e below P T' (mkF m q Ls (.ref a :: st))) : Go p e below P T (mkF m pc Ls st) := by
  subst hq
  obtain ⟨T', h', X', e', E, A, D, -, k⟩ := newO X hx hZ hown w wi wz eT (g := mkF m pc Ls st) rfl hd hc hl
  exact (K T' h' _ rfl X' e' E A D).back k
theorem go_initO {own : String} {idx W : Nat} {a : Addr} (X : Stand p l e R s m args below meth c T locs cells slots) (hx : p.tables.exec = Jvm.exec) (hZ : Z.Warmed39 s.vm) (hown : s.vm.findClass own = some m.cls) (w1 : (Cond.methodLink own idx Lib.objectInit).before a0 Z = true) (w2 : (Cond.instanceMethod Lib.objectInit).before a0 Z = true)
    (w3 : (Cond.code Lib.objectInit ⟨#[0xb1]⟩ 1 none).before a0 Z = true) (eT : T.heap = h) (hml : Ls.size = c.maxLocals) (hd : decode c.code pc = .ok (.invokespecial idx, 3)) (hf : 1 ≤ R.frames) (hW : (st.map fun v => v.category).sum ≤ W) (hl : W + 12 ≤ R.locals) (hq : pc + 3 = q)
    (K : ∀ T', Stand p l e R s m args below meth c T' locs cells slots → T'.heap = h → Go p e below P T' (mkF m q Ls st)) : Go p e below P T (mkF m pc Ls (.ref a :: st)) := by
  subst hq
  obtain ⟨T', X', e', k⟩ := initO X hx hZ hown w1 w2 w3 eT (g := mkF m pc Ls (.ref a :: st)) rfl hml rfl hd hf (W := W) (by show 2 * 0 + _ ≤ _; omega) hl
  exact (K T' X' e').back k
theorem go_alen {a : Addr} {k : ClassId} {ty : FieldType} {n : Int32} {vs : List Value} {dv : Value} (X : Stand p l e R s m args below meth c T locs cells slots) (hx : p.tables.exec = Jvm.exec) (hZ : Z.Warmed39 s.vm) (eT : T.heap = h) (F : Arv Z h a k ty n vs dv) (hd : decode c.code pc = .ok (.arraylength, 1)) (hq : pc + 1 = q) (K : Go p e below P T (mkF m q Ls (.int n :: st))) : Go p e below P T (mkF m pc Ls (.ref a :: st)) := by
  subst hq
  obtain ⟨cl, A, e1, S, nz, H, G⟩ := F
  exact K.back fun t j => X.arraylength hx (by rw [eT]; exact A.1) (State.isArrayOf_alike hZ.alike A.2.1) (g := mkF m pc Ls (.ref a :: st)) rfl rfl hd t (by rw [len_of S nz]; exact j)
theorem go_newP {aty : ArrayType} {ty : FieldType} {n : Int32} {cap : Nat} {vs : List Value} {dv : Value} (X : Stand p l e R s m args below meth c T locs cells slots) (hx : p.tables.exec = Jvm.exec) (hZ : Z.Warmed39 s.vm) (hty : newarray.typeOf aty = ty) (w : (Cond.arrayClass ty).before a0 Z = true) (eT : T.heap = h) (hd : decode c.code pc = .ok (.newarray aty, 2)) (hn : ¬ n < 0) (hcap : n.toNatClampNeg ≤ cap) (hb : cap * 8 ≤ 536870912) (hc : cells + 1 ≤ R.cells) (hl : slots + cap ≤ R.slots) (hdv : defaultValue ty = dv) (hvs : List.replicate cap dv = vs) (hq : pc + 2 = q)
    (K : ∀ T' h' a k, a = h.size → Stand p l e R s m args below meth c T' locs (cells + 1) (slots + cap) → T'.heap = h' → Ext h h' → Arv Z h' a k ty n vs dv → Go p e below P T' (mkF m q Ls (.ref a :: st))) : Go p e below P T (mkF m pc Ls (.int n :: st)) := by
  subst hq hty hdv hvs
  obtain ⟨T', h', cA, X', e', E, A, k⟩ := newP X hx hZ w eT (g := mkF m pc Ls (.int n :: st)) rfl hd rfl hn hcap hb hc hl
  exact (K T' h' _ cA rfl X' e' E ((Arv.new A hn).pad (pad_rep [] _ cap))).back k
theorem go_iaload {a : Addr} {k : ClassId} {n j : Int32} {vs : List Value} {dv v : Value} (X : Stand p l e R s m args below meth c T locs cells slots) (hx : p.tables.exec = Jvm.exec) (hZ : Z.Warmed39 s.vm) (eT : T.heap = h) (F : Arv Z h a k .int n vs dv) (hj : ¬ j < 0 ∧ j < n) (hv : vs.getD j.toNatClampNeg dv = v) (hd : decode c.code pc = .ok (.iaload, 1)) (hq : pc + 1 = q) (K : Go p e below P T (mkF m q Ls (v :: st))) : Go p e below P T (mkF m pc Ls (.int j :: .ref a :: st)) := by
  subst hq
  obtain ⟨cl, A, e1, S, nz, H, G⟩ := F
  exact K.back fun t i => X.iaload hx (by rw [eT]; exact A.1) (State.isArrayOf_alike hZ.alike A.2.1) A.2.2 (inb_of S hj) (H.at (inb_of S hj) hv) (g := mkF m pc Ls (.int j :: .ref a :: st)) rfl rfl hd t i
theorem go_caload {a : Addr} {k : ClassId} {n j : Int32} {vs : List Value} {dv v : Value} (X : Stand p l e R s m args below meth c T locs cells slots) (hx : p.tables.exec = Jvm.exec) (hZ : Z.Warmed39 s.vm) (eT : T.heap = h) (F : Arv Z h a k .char n vs dv) (hj : ¬ j < 0 ∧ j < n) (hv : vs.getD j.toNatClampNeg dv = v) (hd : decode c.code pc = .ok (.caload, 1)) (hq : pc + 1 = q) (K : Go p e below P T (mkF m q Ls (v :: st))) : Go p e below P T (mkF m pc Ls (.int j :: .ref a :: st)) := by
  subst hq
  obtain ⟨cl, A, e1, S, nz, H, G⟩ := F
  exact K.back fun t i => X.caload hx (by rw [eT]; exact A.1) (State.isArrayOf_alike hZ.alike A.2.1) A.2.2 (inb_of S hj) (H.at (inb_of S hj) hv) (g := mkF m pc Ls (.int j :: .ref a :: st)) rfl rfl hd t i
theorem go_baload {a : Addr} {k : ClassId} {n j : Int32} {vs : List Value} {dv v : Value} (X : Stand p l e R s m args below meth c T locs cells slots) (hx : p.tables.exec = Jvm.exec) (hZ : Z.Warmed39 s.vm) (eT : T.heap = h) (F : Arv Z h a k .byte n vs dv) (hj : ¬ j < 0 ∧ j < n) (hv : vs.getD j.toNatClampNeg dv = v) (hd : decode c.code pc = .ok (.baload, 1)) (hq : pc + 1 = q) (K : Go p e below P T (mkF m q Ls (v :: st))) : Go p e below P T (mkF m pc Ls (.int j :: .ref a :: st)) := by
  subst hq
  obtain ⟨cl, A, e1, S, nz, H, G⟩ := F
  exact K.back fun t i => X.baloadBytes hx (by rw [eT]; exact A.1) (State.isArrayOf_alike hZ.alike A.2.1) A.2.2 (inb_of S hj) (H.at (inb_of S hj) hv) (g := mkF m pc Ls (.int j :: .ref a :: st)) rfl rfl hd t i
theorem go_daload {a : Addr} {k : ClassId} {n j : Int32} {vs : List Value} {dv v : Value} (X : Stand p l e R s m args below meth c T locs cells slots) (hx : p.tables.exec = Jvm.exec) (hZ : Z.Warmed39 s.vm) (eT : T.heap = h) (F : Arv Z h a k .double n vs dv) (hj : ¬ j < 0 ∧ j < n) (hv : vs.getD j.toNatClampNeg dv = v) (hd : decode c.code pc = .ok (.daload, 1)) (hq : pc + 1 = q) (K : Go p e below P T (mkF m q Ls (v :: st))) : Go p e below P T (mkF m pc Ls (.int j :: .ref a :: st)) := by
  subst hq
  obtain ⟨cl, A, e1, S, nz, H, G⟩ := F
  exact K.back fun t i => X.daload hx (by rw [eT]; exact A.1) (State.isArrayOf_alike hZ.alike A.2.1) A.2.2 (inb_of S hj) (H.at (inb_of S hj) hv) (g := mkF m pc Ls (.int j :: .ref a :: st)) rfl rfl hd t i
theorem go_aaload {a : Addr} {k : ClassId} {ty : FieldType} {n j : Int32} {vs : List Value} {dv v : Value} (X : Stand p l e R s m args below meth c T locs cells slots) (hx : p.tables.exec = Jvm.exec) (hZ : Z.Warmed39 s.vm) (eT : T.heap = h) (F : Arv Z h a k ty n vs dv) (hty : ty.isReference = true) (hj : ¬ j < 0 ∧ j < n) (hv : vs.getD j.toNatClampNeg dv = v) (hd : decode c.code pc = .ok (.aaload, 1)) (hq : pc + 1 = q) (K : Go p e below P T (mkF m q Ls (v :: st))) : Go p e below P T (mkF m pc Ls (.int j :: .ref a :: st)) := by
  subst hq
  obtain ⟨cl, A, e1, S, nz, H, G⟩ := F
  exact K.back fun t i => X.aaload hx (by rw [eT]; exact A.1) (State.isArrayOf_alike hZ.alike A.2.1) hty A.2.2 (inb_of S hj) (H.at (inb_of S hj) hv) (g := mkF m pc Ls (.int j :: .ref a :: st)) rfl rfl hd t i
theorem go_castore {a : Addr} {k : ClassId} {n j x x' : Int32} {i : Nat} {vs vs' : List Value} {dv : Value} (X : Stand p l e R s m args below meth c T locs cells slots) (hx : p.tables.exec = Jvm.exec) (hZ : Z.Warmed39 s.vm) (eT : T.heap = h) (F : Arv Z h a k .char n vs dv) (hj : ¬ j < 0 ∧ j < n) (hi : j.toNatClampNeg = i) (hl : i < vs.length) (hn : nar .char x = x') (hvs : vs.set i (.int x') = vs') (hd : decode c.code pc = .ok (.castore, 1)) (hq : pc + 1 = q)
    (K : ∀ T' h', Stand p l e R s m args below meth c T' (locs ++ [⟨a, j.toNatClampNeg⟩]) cells slots → T'.heap = h' → Wr h h' a j.toNatClampNeg (.int x') → Arv Z h' a k .char n vs' dv → Go p e below P T' (mkF m q Ls st)) : Go p e below P T (mkF m pc Ls (.int x :: .int j :: .ref a :: st)) := by
  subst hq hn hvs
  obtain ⟨cl, A, e1, S, nz, H, G⟩ := F
  obtain ⟨T', h', X', e', W, k⟩ := stC X hx hZ eT A (inb_of S hj) (g := mkF m pc Ls (.int x :: .int j :: .ref a :: st)) rfl rfl hd
  exact (K T' h' X' e' W (Arv.set A e1 S nz H G (fits_nar_char _) W i hi hl)).back k
theorem go_bastore {a : Addr} {k : ClassId} {n j x x' : Int32} {i : Nat} {vs vs' : List Value} {dv : Value} (X : Stand p l e R s m args below meth c T locs cells slots) (hx : p.tables.exec = Jvm.exec) (hZ : Z.Warmed39 s.vm) (eT : T.heap = h) (F : Arv Z h a k .byte n vs dv) (hj : ¬ j < 0 ∧ j < n) (hi : j.toNatClampNeg = i) (hl : i < vs.length) (hn : nar .byte x = x') (hvs : vs.set i (.int x') = vs') (hd : decode c.code pc = .ok (.bastore, 1)) (hq : pc + 1 = q)
    (K : ∀ T' h', Stand p l e R s m args below meth c T' (locs ++ [⟨a, j.toNatClampNeg⟩]) cells slots → T'.heap = h' → Wr h h' a j.toNatClampNeg (.int x') → Arv Z h' a k .byte n vs' dv → Go p e below P T' (mkF m q Ls st)) : Go p e below P T (mkF m pc Ls (.int x :: .int j :: .ref a :: st)) := by
  subst hq hn hvs
  obtain ⟨cl, A, e1, S, nz, H, G⟩ := F
  obtain ⟨T', h', X', e', W, k⟩ := stB X hx hZ eT A (inb_of S hj) (g := mkF m pc Ls (.int x :: .int j :: .ref a :: st)) rfl rfl hd
  exact (K T' h' X' e' W (Arv.set A e1 S nz H G (fits_nar_byte _) W i hi hl)).back k
theorem go_dastore {a : Addr} {k : ClassId} {n j : Int32} {x : UInt64} {i : Nat} {vs vs' : List Value} {dv : Value} (X : Stand p l e R s m args below meth c T locs cells slots) (hx : p.tables.exec = Jvm.exec) (hZ : Z.Warmed39 s.vm) (eT : T.heap = h) (F : Arv Z h a k .double n vs dv) (hj : ¬ j < 0 ∧ j < n) (hi : j.toNatClampNeg = i) (hl : i < vs.length) (hvs : vs.set i (.double x) = vs') (hd : decode c.code pc = .ok (.dastore, 1)) (hq : pc + 1 = q)
    (K : ∀ T' h', Stand p l e R s m args below meth c T' (locs ++ [⟨a, j.toNatClampNeg⟩]) cells slots → T'.heap = h' → Wr h h' a j.toNatClampNeg (.double x) → Arv Z h' a k .double n vs' dv → Go p e below P T' (mkF m q Ls st)) : Go p e below P T (mkF m pc Ls (.double x :: .int j :: .ref a :: st)) := by
  subst hq hvs
  obtain ⟨cl, A, e1, S, nz, H, G⟩ := F
  obtain ⟨T', h', X', e', W, k⟩ := stD X hx hZ eT A (inb_of S hj) (g := mkF m pc Ls (.double x :: .int j :: .ref a :: st)) rfl rfl hd
  exact (K T' h' X' e' W (Arv.set A e1 S nz H G rfl W i hi hl)).back k
variable {y z : MethodName} {bytes : ByteArray} {maxL : Nat} {ret : Option FieldType} {rm : Room} {as' : Array Value} {Qc : Option Value → Heap → List Loc → Prop} {own CL : String} {index W : Nat}
theorem Con.pays {len : Nat} (M : Con l Z y bytes maxL ret rm as' h Qc) (hZ : Z.Warmed39 s.vm) (wc : (Cond.code y bytes maxL ret).before a0 Z = true) (wz : (Cond.initialized y.cls).before a0 Z = true) (hf : rm.frames + 1 ≤ R.frames) (hl : W + (maxL + 11) + rm.locals ≤ R.locals) :
    Back l R p e below s args y len W (fun A a => a = as' ∧ A.U.heap = h ∧ A.cells + rm.cells ≤ R.cells ∧ A.slots + rm.slots ≤ R.slots)
      (fun A _ v B => ∃ L, Qc v B.U.heap L ∧ B.locs = A.locs ++ L ∧ B.cells = A.cells + rm.cells ∧ B.slots = A.slots + rm.slots) := backOf (M []) hZ wc wz hf hl
theorem go_static (X : Stand p l e R s m args below meth c T locs cells slots) (hx : p.tables.exec = Jvm.exec) (hZ : Z.Warmed39 s.vm) (hown : s.vm.findClass own = some m.cls) (w1 : (Cond.methodLink own index y).before a0 Z = true) (w2 : (Cond.static y).before a0 Z = true) (wz : (Cond.initialized y.cls).before a0 Z = true) (wc : (Cond.code y bytes maxL ret).before a0 Z = true) (hy : y.cls ≠ "java/lang/invoke/MethodHandle" ∧ y.cls ≠ "java/lang/invoke/VarHandle")
    (eT : T.heap = h) (M : Con l Z y bytes maxL ret rm as' h Qc) (has : argsL.toArray = as') (hlen : ∀ sig, parseMethodDescriptor y.desc = some sig → argsL.length = sig.parameters.length) (hst : stk = argsL.reverse ++ rest) (hml : Ls.size = c.maxLocals) (hW : (rest.map fun v => v.category).sum ≤ W) (hd : decode c.code pc = .ok (.invokestatic index, 3)) (hf : rm.frames + 1 ≤ R.frames) (hl : W + (maxL + 11) + rm.locals ≤ R.locals) (hc : cells + rm.cells ≤ R.cells) (hs : slots + rm.slots ≤ R.slots) (hq : pc + 3 = q)
    (K : ∀ T' h' v L, Stand p l e R s m args below meth c T' (locs ++ L) (cells + rm.cells) (slots + rm.slots) → T'.heap = h' → Qc v h' L → Go p e below P T' (mkF m q Ls (v.toList ++ rest))) : Go p e below P T (mkF m pc Ls stk) := by
  subst hq
  obtain ⟨v, _, ⟨T', L', k', n'⟩, -, X', ⟨L, hQ, e1, e2, e3⟩, k⟩ := Jvm.LawKit.callS X hx (y := y) hown (mvT hZ w1) (mvT hZ w2) (mvT hZ wz) (mvT hZ wc) hy (M.pays (W := W) hZ wc wz hf hl) (g := mkF m pc Ls stk) rfl hml (argsL := argsL) (rest := rest) hlen hst (by show 2 * 0 + _ ≤ _; omega) hd (fun _ _ => ⟨has, eT, hc, hs⟩)
  dsimp only [Pt.U, Pt.locs, Pt.cells, Pt.slots] at X' e1 e2 e3 k hQ
  subst e1 e2 e3
  exact (K T' _ v L X' rfl hQ).back k
theorem go_special {a : Addr} (X : Stand p l e R s m args below meth c T locs cells slots) (hx : p.tables.exec = Jvm.exec) (hZ : Z.Warmed39 s.vm) (hown : s.vm.findClass own = some m.cls) (hy1 : y.name = "<init>") (w1 : (Cond.methodLink own index y).before a0 Z = true) (w2 : (Cond.instanceMethod y).before a0 Z = true) (wz : (Cond.initialized y.cls).before a0 Z = true) (wc : (Cond.code y bytes maxL none).before a0 Z = true) (hy : y.cls ≠ "java/lang/invoke/MethodHandle" ∧ y.cls ≠ "java/lang/invoke/VarHandle")
    (eT : T.heap = h) (M : Con l Z y bytes maxL none rm as' h Qc) (has : (.ref a :: argsL).toArray = as') (hlen : ∀ sig, parseMethodDescriptor y.desc = some sig → argsL.length = sig.parameters.length) (hst : stk = argsL.reverse ++ .ref a :: rest) (hml : Ls.size = c.maxLocals) (hW : (rest.map fun v => v.category).sum ≤ W) (hd : decode c.code pc = .ok (.invokespecial index, 3)) (hf : rm.frames + 1 ≤ R.frames) (hl : W + (maxL + 11) + rm.locals ≤ R.locals) (hc : cells + rm.cells ≤ R.cells) (hs : slots + rm.slots ≤ R.slots) (hq : pc + 3 = q)
    (K : ∀ T' h' v L, Stand p l e R s m args below meth c T' (locs ++ L) (cells + rm.cells) (slots + rm.slots) → T'.heap = h' → Qc v h' L → Go p e below P T' (mkF m q Ls (v.toList ++ rest))) : Go p e below P T (mkF m pc Ls stk) := by
  subst hq
  obtain ⟨v, _, ⟨T', L', k', n'⟩, -, X', ⟨L, hQ, e1, e2, e3⟩, k⟩ := X.specialBack hx (y := y) hy1 hown (mvT hZ w1) (mvT hZ w2) (mvT hZ wc) hy (M.pays (W := W) hZ wc wz hf hl) (g := mkF m pc Ls stk) rfl hml (Steps.refl _) (a := a) (argsL := argsL) (rest := rest) hlen hst (by show 2 * 0 + _ ≤ _; omega) hd (fun _ _ => ⟨has, eT, hc, hs⟩)
  dsimp only [Pt.U, Pt.locs, Pt.cells, Pt.slots] at X' e1 e2 e3 k hQ
  subst e1 e2 e3
  exact (K T' _ v L X' rfl hQ).back fun _ j => k.trans j
theorem go_virtual {a : Addr} (X : Stand p l e R s m args below meth c T locs cells slots) (hx : p.tables.exec = Jvm.exec) (hZ : Z.Warmed39 s.vm) (hown : s.vm.findClass own = some m.cls) (w1 : (Cond.methodLink own index y).before a0 Z = true) (w2 : (Cond.declares y).before a0 Z = true) (hnf : NotFace s y) (w3 : (Cond.selects CL y z).before a0 Z = true) (w4 : (Cond.instanceMethod z).before a0 Z = true) (wz : (Cond.initialized z.cls).before a0 Z = true) (wc : (Cond.code z bytes maxL ret).before a0 Z = true) (hy : y.cls ≠ "java/lang/invoke/MethodHandle" ∧ y.cls ≠ "java/lang/invoke/VarHandle")
    (eT : T.heap = h) (E : Exa Z h a CL) (M : Con l Z z bytes maxL ret rm as' h Qc) (has : (.ref a :: argsL).toArray = as') (hlen : ∀ sig, parseMethodDescriptor y.desc = some sig → argsL.length = sig.parameters.length) (hst : stk = argsL.reverse ++ .ref a :: rest) (hml : Ls.size = c.maxLocals) (hW : (rest.map fun v => v.category).sum ≤ W) (hd : decode c.code pc = .ok (.invokevirtual index, 3)) (hf : rm.frames + 1 ≤ R.frames) (hl : W + (maxL + 11) + rm.locals ≤ R.locals) (hc : cells + rm.cells ≤ R.cells) (hs : slots + rm.slots ≤ R.slots) (hq : pc + 3 = q)
    (K : ∀ T' h' v L, Stand p l e R s m args below meth c T' (locs ++ L) (cells + rm.cells) (slots + rm.slots) → T'.heap = h' → Qc v h' L → Go p e below P T' (mkF m q Ls (v.toList ++ rest))) : Go p e below P T (mkF m pc Ls stk) := by
  subst hq
  obtain ⟨cq, kq, qa, qb, qc⟩ := isOf hZ eT E
  obtain ⟨v, _, ⟨T', L', k', n'⟩, -, X', ⟨L, hQ, e1, e2, e3⟩, k⟩ := X.virtualBack hx (y := y) (z := z) hown (mvT hZ w1) (mvT hZ w2) hnf (mvT hZ w3) (mvT hZ w4) hy (M.pays (W := W) hZ wc wz hf hl) qa qc (g := mkF m pc Ls stk) rfl hml (Steps.refl _) (argsL := argsL) (rest := rest) hlen hst (by show 2 * 0 + _ ≤ _; omega) hd (fun _ _ => ⟨has, eT, hc, hs⟩)
  dsimp only [Pt.U, Pt.locs, Pt.cells, Pt.slots] at X' e1 e2 e3 k hQ
  subst e1 e2 e3
  exact (K T' _ v L X' rfl hQ).back fun _ j => k.trans j
theorem go_iface {a : Addr} {count : Nat} (X : Stand p l e R s m args below meth c T locs cells slots) (hx : p.tables.exec = Jvm.exec) (hZ : Z.Warmed39 s.vm) (hown : s.vm.findClass own = some m.cls) (w1 : (Cond.methodLink own index y).before a0 Z = true) (w2 : (Cond.declares y).before a0 Z = true) (w5 : (Cond.interfaceMethod y.cls y.cls y.name y.desc).before args s = true) (w3 : (Cond.selects CL y z).before a0 Z = true) (w4 : (Cond.instanceMethod z).before a0 Z = true) (w6 : (Cond.publicMethod z).before a0 Z = true) (w7 : (Cond.unhidden CL y.name y.desc).before a0 Z = true) (w8 : (Cond.castable CL y.cls).before a0 Z = true) (wz : (Cond.initialized z.cls).before a0 Z = true) (wc : (Cond.code z bytes maxL ret).before a0 Z = true) (hy : y.cls ≠ "java/lang/invoke/MethodHandle" ∧ y.cls ≠ "java/lang/invoke/VarHandle")
    (eT : T.heap = h) (E : Exa Z h a CL) (M : Con l Z z bytes maxL ret rm as' h Qc) (has : (.ref a :: argsL).toArray = as') (hlen : ∀ sig, parseMethodDescriptor y.desc = some sig → argsL.length = sig.parameters.length) (hst : stk = argsL.reverse ++ .ref a :: rest) (hml : Ls.size = c.maxLocals) (hW : (rest.map fun v => v.category).sum ≤ W) (hd : decode c.code pc = .ok (.invokeinterface index count, 5)) (hf : rm.frames + 1 ≤ R.frames) (hl : W + (maxL + 11) + rm.locals ≤ R.locals) (hc : cells + rm.cells ≤ R.cells) (hs : slots + rm.slots ≤ R.slots) (hq : pc + 5 = q)
    (K : ∀ T' h' v L, Stand p l e R s m args below meth c T' (locs ++ L) (cells + rm.cells) (slots + rm.slots) → T'.heap = h' → Qc v h' L → Go p e below P T' (mkF m q Ls (v.toList ++ rest))) : Go p e below P T (mkF m pc Ls stk) := by
  subst hq
  obtain ⟨cq, kq, qa, qb, qc⟩ := isOf hZ eT E
  obtain ⟨v, _, ⟨T', L', k', n'⟩, -, X', ⟨L, hQ, e1, e2, e3⟩, k⟩ := X.interfaceBack hx (xi := y) (y := z) hown (mvT hZ w1) (mvT hZ w2) w5 (mvT hZ w3) (mvT hZ w4) (mvT hZ w6) (mvT hZ w7) (mvT hZ w8) hy (M.pays (W := W) hZ wc wz hf hl) qa qb qc (g := mkF m pc Ls stk) rfl hml (Steps.refl _) (argsL := argsL) (rest := rest) hlen hst (by show 2 * 0 + _ ≤ _; omega) hd (fun _ _ => ⟨has, eT, hc, hs⟩)
  dsimp only [Pt.U, Pt.locs, Pt.cells, Pt.slots] at X' e1 e2 e3 k hQ
  subst e1 e2 e3
  exact (K T' _ v L X' rfl hQ).back fun _ j => k.trans j
end OwnKit
theorem d1_0 : decode prog_53_method_10_code 0 = .ok (.aload_n 0, 1) := by decide +kernel
theorem d1_1 : decode prog_53_method_10_code 1 = .ok (.getfield 58, 3) := by decide +kernel
theorem d1_4 : decode prog_53_method_10_code 4 = .ok (.aload_n 0, 1) := by decide +kernel
theorem d1_5 : decode prog_53_method_10_code 5 = .ok (.getfield 62, 3) := by decide +kernel
theorem d1_8 : decode prog_53_method_10_code 8 = .ok (.invokestatic 69, 3) := by decide +kernel
theorem d1_11 : decode prog_53_method_10_code 11 = .ok (.areturn, 1) := by decide +kernel
theorem d2_0 : decode jdk_40_method_38_code 0 = .ok (.new 96, 3) := by decide +kernel
theorem d2_3 : decode jdk_40_method_38_code 3 = .ok (.dup, 1) := by decide +kernel
theorem d2_4 : decode jdk_40_method_38_code 4 = .ok (.aload_n 0, 1) := by decide +kernel
theorem d2_5 : decode jdk_40_method_38_code 5 = .ok (.aload_n 1, 1) := by decide +kernel
theorem d2_6 : decode jdk_40_method_38_code 6 = .ok (.invokespecial 100, 3) := by decide +kernel
theorem d2_9 : decode jdk_40_method_38_code 9 = .ok (.areturn, 1) := by decide +kernel
theorem d3_0 : decode jdk_44_method_2_code 0 = .ok (.aload_n 0, 1) := by decide +kernel
theorem d3_1 : decode jdk_44_method_2_code 1 = .ok (.invokespecial 1, 3) := by decide +kernel
theorem d3_4 : decode jdk_44_method_2_code 4 = .ok (.aload_n 0, 1) := by decide +kernel
theorem d3_5 : decode jdk_44_method_2_code 5 = .ok (.aload_n 1, 1) := by decide +kernel
theorem d3_6 : decode jdk_44_method_2_code 6 = .ok (.invokestatic 7, 3) := by decide +kernel
theorem d3_9 : decode jdk_44_method_2_code 9 = .ok (.putfield 13, 3) := by decide +kernel
theorem d3_12 : decode jdk_44_method_2_code 12 = .ok (.aload_n 0, 1) := by decide +kernel
theorem d3_13 : decode jdk_44_method_2_code 13 = .ok (.aload_n 2, 1) := by decide +kernel
theorem d3_14 : decode jdk_44_method_2_code 14 = .ok (.invokestatic 7, 3) := by decide +kernel
theorem d3_17 : decode jdk_44_method_2_code 17 = .ok (.putfield 24, 3) := by decide +kernel
theorem d3_20 : decode jdk_44_method_2_code 20 = .ok (.return_, 1) := by decide +kernel
theorem d4_0 : decode jdk_46_method_1_code 0 = .ok (.aload_n 0, 1) := by decide +kernel
theorem d4_1 : decode jdk_46_method_1_code 1 = .ok (.invokespecial 1, 3) := by decide +kernel
theorem d4_4 : decode jdk_46_method_1_code 4 = .ok (.return_, 1) := by decide +kernel
theorem d5_0 : decode jdk_47_method_1_code 0 = .ok (.aload_n 0, 1) := by decide +kernel
theorem d5_1 : decode jdk_47_method_1_code 1 = .ok (.invokespecial 1, 3) := by decide +kernel
theorem d5_4 : decode jdk_47_method_1_code 4 = .ok (.return_, 1) := by decide +kernel
theorem d6_0 : decode jdk_22_method_1_code 0 = .ok (.aload_n 0, 1) := by decide +kernel
theorem d6_1 : decode jdk_22_method_1_code 1 = .ok (.invokespecial 1, 3) := by decide +kernel
theorem d6_4 : decode jdk_22_method_1_code 4 = .ok (.return_, 1) := by decide +kernel
theorem d8_0 : decode jdk_31_method_10_code 0 = .ok (.aload_n 0, 1) := by decide +kernel
theorem d8_1 : decode jdk_31_method_10_code 1 = .ok (.ifnonnull 11, 3) := by decide +kernel
theorem d8_12 : decode jdk_31_method_10_code 12 = .ok (.aload_n 0, 1) := by decide +kernel
theorem d8_13 : decode jdk_31_method_10_code 13 = .ok (.areturn, 1) := by decide +kernel
theorem d9_0 : decode jdk_44_method_3_code 0 = .ok (.aload_n 0, 1) := by decide +kernel
theorem d9_1 : decode jdk_44_method_3_code 1 = .ok (.getfield 24, 3) := by decide +kernel
theorem d9_4 : decode jdk_44_method_3_code 4 = .ok (.getstatic 19, 3) := by decide +kernel
theorem d9_7 : decode jdk_44_method_3_code 7 = .ok (.if_acmp .eq 7, 3) := by decide +kernel
theorem d9_10 : decode jdk_44_method_3_code 10 = .ok (.iconst 2, 1) := by decide +kernel
theorem d9_11 : decode jdk_44_method_3_code 11 = .ok (.goto 4, 3) := by decide +kernel
theorem d9_15 : decode jdk_44_method_3_code 15 = .ok (.ireturn, 1) := by decide +kernel
theorem d10_0 : decode jdk_44_method_5_code 0 = .ok (.iload_n 1, 1) := by decide +kernel
theorem d10_1 : decode jdk_44_method_5_code 1 = .ok (.ifCond .ne 8, 3) := by decide +kernel
theorem d10_4 : decode jdk_44_method_5_code 4 = .ok (.aload_n 0, 1) := by decide +kernel
theorem d10_5 : decode jdk_44_method_5_code 5 = .ok (.getfield 13, 3) := by decide +kernel
theorem d10_8 : decode jdk_44_method_5_code 8 = .ok (.areturn, 1) := by decide +kernel
theorem d10_9 : decode jdk_44_method_5_code 9 = .ok (.iload_n 1, 1) := by decide +kernel
theorem d10_10 : decode jdk_44_method_5_code 10 = .ok (.iconst 1, 1) := by decide +kernel
theorem d10_11 : decode jdk_44_method_5_code 11 = .ok (.if_icmp .ne 18, 3) := by decide +kernel
theorem d10_14 : decode jdk_44_method_5_code 14 = .ok (.aload_n 0, 1) := by decide +kernel
theorem d10_15 : decode jdk_44_method_5_code 15 = .ok (.getfield 24, 3) := by decide +kernel
theorem d10_18 : decode jdk_44_method_5_code 18 = .ok (.getstatic 19, 3) := by decide +kernel
theorem d10_21 : decode jdk_44_method_5_code 21 = .ok (.if_acmp .eq 8, 3) := by decide +kernel
theorem d10_24 : decode jdk_44_method_5_code 24 = .ok (.aload_n 0, 1) := by decide +kernel
theorem d10_25 : decode jdk_44_method_5_code 25 = .ok (.getfield 24, 3) := by decide +kernel
theorem d10_28 : decode jdk_44_method_5_code 28 = .ok (.areturn, 1) := by decide +kernel
theorem d11_0 : decode prog_53_method_8_code 0 = .ok (.aload_n 0, 1) := by decide +kernel
theorem d11_1 : decode prog_53_method_8_code 1 = .ok (.getfield 58, 3) := by decide +kernel
theorem d11_4 : decode prog_53_method_8_code 4 = .ok (.areturn, 1) := by decide +kernel
theorem d12_0 : decode prog_53_method_9_code 0 = .ok (.aload_n 0, 1) := by decide +kernel
theorem d12_1 : decode prog_53_method_9_code 1 = .ok (.getfield 62, 3) := by decide +kernel
theorem d12_4 : decode prog_53_method_9_code 4 = .ok (.areturn, 1) := by decide +kernel
theorem d13_0 : decode prog_54_method_4_code 0 = .ok (.aload_n 0, 1) := by decide +kernel
theorem d13_1 : decode prog_54_method_4_code 1 = .ok (.getfield 7, 3) := by decide +kernel
theorem d13_4 : decode prog_54_method_4_code 4 = .ok (.areturn, 1) := by decide +kernel
theorem pn_0 : plainName "java/util/AbstractCollection" = true := by first | (simp [plainName, overriddenIn]; done) | decide +kernel
theorem pn_1 : plainName "java/util/ImmutableCollections$AbstractImmutableCollection" = true := by first | (simp [plainName, overriddenIn]; done) | decide +kernel
theorem pn_2 : plainName "java/util/ImmutableCollections$AbstractImmutableList" = true := by first | (simp [plainName, overriddenIn]; done) | decide +kernel
theorem pn_3 : plainName "java/util/Objects" = true := by first | (simp [plainName, overriddenIn]; done) | decide +kernel
theorem pn_4 : plainName "java/util/ImmutableCollections$List12" = true := by first | (simp [plainName, overriddenIn]; done) | decide +kernel
theorem pn_5 : plainName "java/util/List" = true := by first | (simp [plainName, overriddenIn]; done) | decide +kernel
theorem pn_6 : plainName "com/example/harborspread/harborspread/SpreadContract" = true := by first | (simp [plainName, overriddenIn]; done) | decide +kernel
theorem pn_7 : plainName "com/example/harborspread/harborspread/SpreadContract$Leg" = true := by first | (simp [plainName, overriddenIn]; done) | decide +kernel
theorem pn_8 : plainName "com/example/harborspread/harborspread/SpreadContractLegsPinLaw" = true := by first | (simp [plainName, overriddenIn]; done) | decide +kernel
theorem pd_0 : parseMethodDescriptor "()V" = some ⟨[], none⟩ := by decide +kernel
theorem pd_1 : parseMethodDescriptor "(Ljava/lang/Object;)Ljava/lang/Object;" = some ⟨[(.object "java/lang/Object")], some (.object "java/lang/Object")⟩ := by decide +kernel
theorem pd_2 : parseMethodDescriptor "(Ljava/lang/Object;Ljava/lang/Object;)V" = some ⟨[(.object "java/lang/Object"), (.object "java/lang/Object")], none⟩ := by decide +kernel
theorem pd_3 : parseMethodDescriptor "(Ljava/lang/Object;Ljava/lang/Object;)Ljava/util/List;" = some ⟨[(.object "java/lang/Object"), (.object "java/lang/Object")], some (.object "java/util/List")⟩ := by decide +kernel
theorem pd_4 : parseMethodDescriptor "()Ljava/util/List;" = some ⟨[], some (.object "java/util/List")⟩ := by decide +kernel
theorem pd_5 : parseMethodDescriptor "()I" = some ⟨[], some .int⟩ := by decide +kernel
theorem pd_6 : parseMethodDescriptor "(I)Ljava/lang/Object;" = some ⟨[.int], some (.object "java/lang/Object")⟩ := by decide +kernel
theorem pd_7 : parseMethodDescriptor "()Lcom/example/harborspread/harborspread/SpreadContract$Leg;" = some ⟨[], some (.object "com/example/harborspread/harborspread/SpreadContract$Leg")⟩ := by decide +kernel
theorem pd_8 : parseMethodDescriptor "()Lcom/example/harborspread/harborspread/Product;" = some ⟨[], some (.object "com/example/harborspread/harborspread/Product")⟩ := by decide +kernel
theorem w0 {Z : State} {a0 : Array Value} (hw : ∀ d ∈ tables_1, d.before a0 Z = true) : (Jvm.Cond.constant "com/example/harborspread/harborspread/SpreadContractLegsPinLaw" (7 : Nat) (2147483647 : Int32)).before a0 Z = true := hw _ (List.mem_of_getElem? (i := 0) rfl)
theorem w1 {Z : State} {a0 : Array Value} (hw : ∀ d ∈ tables_1, d.before a0 Z = true) : (Jvm.Cond.fieldLink "com/example/harborspread/harborspread/SpreadContractLegsPinLaw" (8 : Nat) "com/example/harborspread/harborspread/SpreadContract" "ULSD_BRENT_CRACK" "Lcom/example/harborspread/harborspread/SpreadContract;").before a0 Z = true := hw _ (List.mem_of_getElem? (i := 1) rfl)
theorem w2 {Z : State} {a0 : Array Value} (hw : ∀ d ∈ tables_1, d.before a0 Z = true) : (Jvm.Cond.initialized "com/example/harborspread/harborspread/SpreadContract").before a0 Z = true := hw _ (List.mem_of_getElem? (i := 2) rfl)
theorem w3 {Z : State} {a0 : Array Value} (hw : ∀ d ∈ tables_1, d.before a0 Z = true) : (Jvm.Cond.laysStatic "com/example/harborspread/harborspread/SpreadContract" "ULSD_BRENT_CRACK" "Lcom/example/harborspread/harborspread/SpreadContract;").before a0 Z = true := hw _ (List.mem_of_getElem? (i := 3) rfl)
theorem w4 {Z : State} {a0 : Array Value} (hw : ∀ d ∈ tables_1, d.before a0 Z = true) : (Jvm.Cond.fieldLink "com/example/harborspread/harborspread/SpreadContractLegsPinLaw" (14 : Nat) "com/example/harborspread/harborspread/Product" "B" "Lcom/example/harborspread/harborspread/Product;").before a0 Z = true := hw _ (List.mem_of_getElem? (i := 4) rfl)
theorem w5 {Z : State} {a0 : Array Value} (hw : ∀ d ∈ tables_1, d.before a0 Z = true) : (Jvm.Cond.initialized "com/example/harborspread/harborspread/Product").before a0 Z = true := hw _ (List.mem_of_getElem? (i := 5) rfl)
theorem w6 {Z : State} {a0 : Array Value} (hw : ∀ d ∈ tables_1, d.before a0 Z = true) : (Jvm.Cond.laysStatic "com/example/harborspread/harborspread/Product" "B" "Lcom/example/harborspread/harborspread/Product;").before a0 Z = true := hw _ (List.mem_of_getElem? (i := 6) rfl)
theorem w7 {Z : State} {a0 : Array Value} (hw : ∀ d ∈ tables_1, d.before a0 Z = true) : (Jvm.Cond.methodLink "com/example/harborspread/harborspread/SpreadContractLegsPinLaw" (29 : Nat) ({ cls := "com/example/harborspread/harborspread/SpreadContract", name := "legs", desc := "()Ljava/util/List;" } : Jvm.MethodName)).before a0 Z = true := hw _ (List.mem_of_getElem? (i := 7) rfl)
theorem w8 {Z : State} {a0 : Array Value} (hw : ∀ d ∈ tables_1, d.before a0 Z = true) : (Jvm.Cond.declares ({ cls := "com/example/harborspread/harborspread/SpreadContract", name := "legs", desc := "()Ljava/util/List;" } : Jvm.MethodName)).before a0 Z = true := hw _ (List.mem_of_getElem? (i := 8) rfl)
theorem w9 {Z : State} {a0 : Array Value} (hw : ∀ d ∈ tables_1, d.before a0 Z = true) : (Jvm.Cond.instanceMethod ({ cls := "com/example/harborspread/harborspread/SpreadContract", name := "legs", desc := "()Ljava/util/List;" } : Jvm.MethodName)).before a0 Z = true := hw _ (List.mem_of_getElem? (i := 9) rfl)
theorem w10 {Z : State} {a0 : Array Value} (hw : ∀ d ∈ tables_1, d.before a0 Z = true) : (Jvm.Cond.selects "com/example/harborspread/harborspread/SpreadContract" ({ cls := "com/example/harborspread/harborspread/SpreadContract", name := "legs", desc := "()Ljava/util/List;" } : Jvm.MethodName) ({ cls := "com/example/harborspread/harborspread/SpreadContract", name := "legs", desc := "()Ljava/util/List;" } : Jvm.MethodName)).before a0 Z = true := hw _ (List.mem_of_getElem? (i := 10) rfl)
theorem w11 {Z : State} {a0 : Array Value} (hw : ∀ d ∈ tables_1, d.before a0 Z = true) : (Jvm.Cond.code ({ cls := "com/example/harborspread/harborspread/SpreadContract", name := "legs", desc := "()Ljava/util/List;" } : Jvm.MethodName) prog_53_method_10_code (1 : Nat) (Option.some (Jvm.ClassFile.FieldType.object "java/util/List"))).before a0 Z = true := hw _ (List.mem_of_getElem? (i := 11) rfl)
theorem w12 {Z : State} {a0 : Array Value} (hw : ∀ d ∈ tables_1, d.before a0 Z = true) : (Jvm.Cond.fieldLink "com/example/harborspread/harborspread/SpreadContract" (58 : Nat) "com/example/harborspread/harborspread/SpreadContract" "first" "Lcom/example/harborspread/harborspread/SpreadContract$Leg;").before a0 Z = true := hw _ (List.mem_of_getElem? (i := 12) rfl)
theorem w14 {Z : State} {a0 : Array Value} (hw : ∀ d ∈ tables_1, d.before a0 Z = true) : (Jvm.Cond.fieldLink "com/example/harborspread/harborspread/SpreadContract" (62 : Nat) "com/example/harborspread/harborspread/SpreadContract" "second" "Lcom/example/harborspread/harborspread/SpreadContract$Leg;").before a0 Z = true := hw _ (List.mem_of_getElem? (i := 14) rfl)
theorem w16 {Z : State} {a0 : Array Value} (hw : ∀ d ∈ tables_1, d.before a0 Z = true) : (Jvm.Cond.methodLink "com/example/harborspread/harborspread/SpreadContract" (69 : Nat) ({ cls := "java/util/List", name := "of", desc := "(Ljava/lang/Object;Ljava/lang/Object;)Ljava/util/List;" } : Jvm.MethodName)).before a0 Z = true := hw _ (List.mem_of_getElem? (i := 16) rfl)
theorem w17 {Z : State} {a0 : Array Value} (hw : ∀ d ∈ tables_1, d.before a0 Z = true) : (Jvm.Cond.static ({ cls := "java/util/List", name := "of", desc := "(Ljava/lang/Object;Ljava/lang/Object;)Ljava/util/List;" } : Jvm.MethodName)).before a0 Z = true := hw _ (List.mem_of_getElem? (i := 17) rfl)
theorem w18 {Z : State} {a0 : Array Value} (hw : ∀ d ∈ tables_1, d.before a0 Z = true) : (Jvm.Cond.initialized "java/util/List").before a0 Z = true := hw _ (List.mem_of_getElem? (i := 18) rfl)
theorem w19 {Z : State} {a0 : Array Value} (hw : ∀ d ∈ tables_1, d.before a0 Z = true) : (Jvm.Cond.code ({ cls := "java/util/List", name := "of", desc := "(Ljava/lang/Object;Ljava/lang/Object;)Ljava/util/List;" } : Jvm.MethodName) jdk_40_method_38_code (2 : Nat) (Option.some (Jvm.ClassFile.FieldType.object "java/util/List"))).before a0 Z = true := hw _ (List.mem_of_getElem? (i := 19) rfl)
theorem w20 {Z : State} {a0 : Array Value} (hw : ∀ d ∈ tables_1, d.before a0 Z = true) : (Jvm.Cond.classLink "java/util/List" (96 : Nat) "java/util/ImmutableCollections$List12").before a0 Z = true := hw _ (List.mem_of_getElem? (i := 20) rfl)
theorem w21 {Z : State} {a0 : Array Value} (hw : ∀ d ∈ tables_1, d.before a0 Z = true) : (Jvm.Cond.instantiable "java/util/ImmutableCollections$List12" (2 : Nat)).before a0 Z = true := hw _ (List.mem_of_getElem? (i := 21) rfl)
theorem w22 {Z : State} {a0 : Array Value} (hw : ∀ d ∈ tables_1, d.before a0 Z = true) : (Jvm.Cond.initialized "java/util/ImmutableCollections$List12").before a0 Z = true := hw _ (List.mem_of_getElem? (i := 22) rfl)
theorem w23 {Z : State} {a0 : Array Value} (hw : ∀ d ∈ tables_1, d.before a0 Z = true) : (Jvm.Cond.methodLink "java/util/List" (100 : Nat) ({ cls := "java/util/ImmutableCollections$List12", name := "<init>", desc := "(Ljava/lang/Object;Ljava/lang/Object;)V" } : Jvm.MethodName)).before a0 Z = true := hw _ (List.mem_of_getElem? (i := 23) rfl)
theorem w24 {Z : State} {a0 : Array Value} (hw : ∀ d ∈ tables_1, d.before a0 Z = true) : (Jvm.Cond.instanceMethod ({ cls := "java/util/ImmutableCollections$List12", name := "<init>", desc := "(Ljava/lang/Object;Ljava/lang/Object;)V" } : Jvm.MethodName)).before a0 Z = true := hw _ (List.mem_of_getElem? (i := 24) rfl)
theorem w26 {Z : State} {a0 : Array Value} (hw : ∀ d ∈ tables_1, d.before a0 Z = true) : (Jvm.Cond.code ({ cls := "java/util/ImmutableCollections$List12", name := "<init>", desc := "(Ljava/lang/Object;Ljava/lang/Object;)V" } : Jvm.MethodName) jdk_44_method_2_code (3 : Nat) (Option.none : Option Jvm.ClassFile.FieldType)).before a0 Z = true := hw _ (List.mem_of_getElem? (i := 26) rfl)
theorem w27 {Z : State} {a0 : Array Value} (hw : ∀ d ∈ tables_1, d.before a0 Z = true) : (Jvm.Cond.methodLink "java/util/ImmutableCollections$List12" (1 : Nat) ({ cls := "java/util/ImmutableCollections$AbstractImmutableList", name := "<init>", desc := "()V" } : Jvm.MethodName)).before a0 Z = true := hw _ (List.mem_of_getElem? (i := 27) rfl)
theorem w28 {Z : State} {a0 : Array Value} (hw : ∀ d ∈ tables_1, d.before a0 Z = true) : (Jvm.Cond.instanceMethod ({ cls := "java/util/ImmutableCollections$AbstractImmutableList", name := "<init>", desc := "()V" } : Jvm.MethodName)).before a0 Z = true := hw _ (List.mem_of_getElem? (i := 28) rfl)
theorem w31 {Z : State} {a0 : Array Value} (hw : ∀ d ∈ tables_1, d.before a0 Z = true) : (Jvm.Cond.initialized "java/util/ImmutableCollections$AbstractImmutableList").before a0 Z = true := hw _ (List.mem_of_getElem? (i := 31) rfl)
theorem w32 {Z : State} {a0 : Array Value} (hw : ∀ d ∈ tables_1, d.before a0 Z = true) : (Jvm.Cond.code ({ cls := "java/util/ImmutableCollections$AbstractImmutableList", name := "<init>", desc := "()V" } : Jvm.MethodName) jdk_46_method_1_code (1 : Nat) (Option.none : Option Jvm.ClassFile.FieldType)).before a0 Z = true := hw _ (List.mem_of_getElem? (i := 32) rfl)
theorem w33 {Z : State} {a0 : Array Value} (hw : ∀ d ∈ tables_1, d.before a0 Z = true) : (Jvm.Cond.methodLink "java/util/ImmutableCollections$AbstractImmutableList" (1 : Nat) ({ cls := "java/util/ImmutableCollections$AbstractImmutableCollection", name := "<init>", desc := "()V" } : Jvm.MethodName)).before a0 Z = true := hw _ (List.mem_of_getElem? (i := 33) rfl)
theorem w34 {Z : State} {a0 : Array Value} (hw : ∀ d ∈ tables_1, d.before a0 Z = true) : (Jvm.Cond.instanceMethod ({ cls := "java/util/ImmutableCollections$AbstractImmutableCollection", name := "<init>", desc := "()V" } : Jvm.MethodName)).before a0 Z = true := hw _ (List.mem_of_getElem? (i := 34) rfl)
theorem w37 {Z : State} {a0 : Array Value} (hw : ∀ d ∈ tables_1, d.before a0 Z = true) : (Jvm.Cond.initialized "java/util/ImmutableCollections$AbstractImmutableCollection").before a0 Z = true := hw _ (List.mem_of_getElem? (i := 37) rfl)
theorem w38 {Z : State} {a0 : Array Value} (hw : ∀ d ∈ tables_1, d.before a0 Z = true) : (Jvm.Cond.code ({ cls := "java/util/ImmutableCollections$AbstractImmutableCollection", name := "<init>", desc := "()V" } : Jvm.MethodName) jdk_47_method_1_code (1 : Nat) (Option.none : Option Jvm.ClassFile.FieldType)).before a0 Z = true := hw _ (List.mem_of_getElem? (i := 38) rfl)
theorem w39 {Z : State} {a0 : Array Value} (hw : ∀ d ∈ tables_1, d.before a0 Z = true) : (Jvm.Cond.methodLink "java/util/ImmutableCollections$AbstractImmutableCollection" (1 : Nat) ({ cls := "java/util/AbstractCollection", name := "<init>", desc := "()V" } : Jvm.MethodName)).before a0 Z = true := hw _ (List.mem_of_getElem? (i := 39) rfl)
theorem w40 {Z : State} {a0 : Array Value} (hw : ∀ d ∈ tables_1, d.before a0 Z = true) : (Jvm.Cond.instanceMethod ({ cls := "java/util/AbstractCollection", name := "<init>", desc := "()V" } : Jvm.MethodName)).before a0 Z = true := hw _ (List.mem_of_getElem? (i := 40) rfl)
theorem w43 {Z : State} {a0 : Array Value} (hw : ∀ d ∈ tables_1, d.before a0 Z = true) : (Jvm.Cond.initialized "java/util/AbstractCollection").before a0 Z = true := hw _ (List.mem_of_getElem? (i := 43) rfl)
theorem w44 {Z : State} {a0 : Array Value} (hw : ∀ d ∈ tables_1, d.before a0 Z = true) : (Jvm.Cond.code ({ cls := "java/util/AbstractCollection", name := "<init>", desc := "()V" } : Jvm.MethodName) jdk_22_method_1_code (1 : Nat) (Option.none : Option Jvm.ClassFile.FieldType)).before a0 Z = true := hw _ (List.mem_of_getElem? (i := 44) rfl)
theorem w45 {Z : State} {a0 : Array Value} (hw : ∀ d ∈ tables_1, d.before a0 Z = true) : (Jvm.Cond.methodLink "java/util/AbstractCollection" (1 : Nat) ({ cls := "java/lang/Object", name := "<init>", desc := "()V" } : Jvm.MethodName)).before a0 Z = true := hw _ (List.mem_of_getElem? (i := 45) rfl)
theorem w46 {Z : State} {a0 : Array Value} (hw : ∀ d ∈ tables_1, d.before a0 Z = true) : (Jvm.Cond.instanceMethod ({ cls := "java/lang/Object", name := "<init>", desc := "()V" } : Jvm.MethodName)).before a0 Z = true := hw _ (List.mem_of_getElem? (i := 46) rfl)
theorem w47 {Z : State} {a0 : Array Value} (hw : ∀ d ∈ tables_1, d.before a0 Z = true) : (Jvm.Cond.code ({ cls := "java/lang/Object", name := "<init>", desc := "()V" } : Jvm.MethodName) object_method_1_code (1 : Nat) (Option.none : Option Jvm.ClassFile.FieldType)).before a0 Z = true := hw _ (List.mem_of_getElem? (i := 47) rfl)
theorem w48 {Z : State} {a0 : Array Value} (hw : ∀ d ∈ tables_1, d.before a0 Z = true) : (Jvm.Cond.methodLink "java/util/ImmutableCollections$List12" (7 : Nat) ({ cls := "java/util/Objects", name := "requireNonNull", desc := "(Ljava/lang/Object;)Ljava/lang/Object;" } : Jvm.MethodName)).before a0 Z = true := hw _ (List.mem_of_getElem? (i := 48) rfl)
theorem w49 {Z : State} {a0 : Array Value} (hw : ∀ d ∈ tables_1, d.before a0 Z = true) : (Jvm.Cond.static ({ cls := "java/util/Objects", name := "requireNonNull", desc := "(Ljava/lang/Object;)Ljava/lang/Object;" } : Jvm.MethodName)).before a0 Z = true := hw _ (List.mem_of_getElem? (i := 49) rfl)
theorem w50 {Z : State} {a0 : Array Value} (hw : ∀ d ∈ tables_1, d.before a0 Z = true) : (Jvm.Cond.initialized "java/util/Objects").before a0 Z = true := hw _ (List.mem_of_getElem? (i := 50) rfl)
theorem w51 {Z : State} {a0 : Array Value} (hw : ∀ d ∈ tables_1, d.before a0 Z = true) : (Jvm.Cond.code ({ cls := "java/util/Objects", name := "requireNonNull", desc := "(Ljava/lang/Object;)Ljava/lang/Object;" } : Jvm.MethodName) jdk_31_method_10_code (1 : Nat) (Option.some (Jvm.ClassFile.FieldType.object "java/lang/Object"))).before a0 Z = true := hw _ (List.mem_of_getElem? (i := 51) rfl)
theorem w52 {Z : State} {a0 : Array Value} (hw : ∀ d ∈ tables_1, d.before a0 Z = true) : (Jvm.Cond.fieldLink "java/util/ImmutableCollections$List12" (13 : Nat) "java/util/ImmutableCollections$List12" "e0" "Ljava/lang/Object;").before a0 Z = true := hw _ (List.mem_of_getElem? (i := 52) rfl)
theorem w53 {Z : State} {a0 : Array Value} (hw : ∀ d ∈ tables_1, d.before a0 Z = true) : (Jvm.Cond.laysFinal "java/util/ImmutableCollections$List12" "java/util/ImmutableCollections$List12" "e0" "Ljava/lang/Object;").before a0 Z = true := hw _ (List.mem_of_getElem? (i := 53) rfl)
theorem w54 {Z : State} {a0 : Array Value} (hw : ∀ d ∈ tables_1, d.before a0 Z = true) : (Jvm.Cond.fieldLink "java/util/ImmutableCollections$List12" (24 : Nat) "java/util/ImmutableCollections$List12" "e1" "Ljava/lang/Object;").before a0 Z = true := hw _ (List.mem_of_getElem? (i := 54) rfl)
theorem w55 {Z : State} {a0 : Array Value} (hw : ∀ d ∈ tables_1, d.before a0 Z = true) : (Jvm.Cond.laysFinal "java/util/ImmutableCollections$List12" "java/util/ImmutableCollections$List12" "e1" "Ljava/lang/Object;").before a0 Z = true := hw _ (List.mem_of_getElem? (i := 55) rfl)
theorem w56 {Z : State} {a0 : Array Value} (hw : ∀ d ∈ tables_1, d.before a0 Z = true) : (Jvm.Cond.methodLink "com/example/harborspread/harborspread/SpreadContractLegsPinLaw" (33 : Nat) ({ cls := "java/util/List", name := "size", desc := "()I" } : Jvm.MethodName)).before a0 Z = true := hw _ (List.mem_of_getElem? (i := 56) rfl)
theorem w57 {Z : State} {a0 : Array Value} (hw : ∀ d ∈ tables_1, d.before a0 Z = true) : (Jvm.Cond.declares ({ cls := "java/util/List", name := "size", desc := "()I" } : Jvm.MethodName)).before a0 Z = true := hw _ (List.mem_of_getElem? (i := 57) rfl)
theorem w58 {Z : State} {a0 : Array Value} (hw : ∀ d ∈ tables_1, d.before a0 Z = true) : (Jvm.Cond.interfaceMethod "java/util/List" "java/util/List" "size" "()I").before a0 Z = true := hw _ (List.mem_of_getElem? (i := 58) rfl)
theorem w59 {Z : State} {a0 : Array Value} (hw : ∀ d ∈ tables_1, d.before a0 Z = true) : (Jvm.Cond.selects "java/util/ImmutableCollections$List12" ({ cls := "java/util/List", name := "size", desc := "()I" } : Jvm.MethodName) ({ cls := "java/util/ImmutableCollections$List12", name := "size", desc := "()I" } : Jvm.MethodName)).before a0 Z = true := hw _ (List.mem_of_getElem? (i := 59) rfl)
theorem w60 {Z : State} {a0 : Array Value} (hw : ∀ d ∈ tables_1, d.before a0 Z = true) : (Jvm.Cond.instanceMethod ({ cls := "java/util/ImmutableCollections$List12", name := "size", desc := "()I" } : Jvm.MethodName)).before a0 Z = true := hw _ (List.mem_of_getElem? (i := 60) rfl)
theorem w61 {Z : State} {a0 : Array Value} (hw : ∀ d ∈ tables_1, d.before a0 Z = true) : (Jvm.Cond.publicMethod ({ cls := "java/util/ImmutableCollections$List12", name := "size", desc := "()I" } : Jvm.MethodName)).before a0 Z = true := hw _ (List.mem_of_getElem? (i := 61) rfl)
theorem w62 {Z : State} {a0 : Array Value} (hw : ∀ d ∈ tables_1, d.before a0 Z = true) : (Jvm.Cond.unhidden "java/util/ImmutableCollections$List12" "size" "()I").before a0 Z = true := hw _ (List.mem_of_getElem? (i := 62) rfl)
theorem w63 {Z : State} {a0 : Array Value} (hw : ∀ d ∈ tables_1, d.before a0 Z = true) : (Jvm.Cond.castable "java/util/ImmutableCollections$List12" "java/util/List").before a0 Z = true := hw _ (List.mem_of_getElem? (i := 63) rfl)
theorem w64 {Z : State} {a0 : Array Value} (hw : ∀ d ∈ tables_1, d.before a0 Z = true) : (Jvm.Cond.code ({ cls := "java/util/ImmutableCollections$List12", name := "size", desc := "()I" } : Jvm.MethodName) jdk_44_method_3_code (1 : Nat) (Option.some Jvm.ClassFile.FieldType.int)).before a0 Z = true := hw _ (List.mem_of_getElem? (i := 64) rfl)
theorem w65 {Z : State} {a0 : Array Value} (hw : ∀ d ∈ tables_1, d.before a0 Z = true) : (Jvm.Cond.fieldLinkNest "java/util/ImmutableCollections$List12" (19 : Nat) "java/util/ImmutableCollections" "EMPTY" "Ljava/lang/Object;" "java/util/ImmutableCollections").before a0 Z = true := hw _ (List.mem_of_getElem? (i := 65) rfl)
theorem w67 {Z : State} {a0 : Array Value} (hw : ∀ d ∈ tables_1, d.before a0 Z = true) : (Jvm.Cond.methodLink "com/example/harborspread/harborspread/SpreadContractLegsPinLaw" (39 : Nat) ({ cls := "java/util/List", name := "get", desc := "(I)Ljava/lang/Object;" } : Jvm.MethodName)).before a0 Z = true := hw _ (List.mem_of_getElem? (i := 67) rfl)
theorem w68 {Z : State} {a0 : Array Value} (hw : ∀ d ∈ tables_1, d.before a0 Z = true) : (Jvm.Cond.declares ({ cls := "java/util/List", name := "get", desc := "(I)Ljava/lang/Object;" } : Jvm.MethodName)).before a0 Z = true := hw _ (List.mem_of_getElem? (i := 68) rfl)
theorem w69 {Z : State} {a0 : Array Value} (hw : ∀ d ∈ tables_1, d.before a0 Z = true) : (Jvm.Cond.interfaceMethod "java/util/List" "java/util/List" "get" "(I)Ljava/lang/Object;").before a0 Z = true := hw _ (List.mem_of_getElem? (i := 69) rfl)
theorem w70 {Z : State} {a0 : Array Value} (hw : ∀ d ∈ tables_1, d.before a0 Z = true) : (Jvm.Cond.selects "java/util/ImmutableCollections$List12" ({ cls := "java/util/List", name := "get", desc := "(I)Ljava/lang/Object;" } : Jvm.MethodName) ({ cls := "java/util/ImmutableCollections$List12", name := "get", desc := "(I)Ljava/lang/Object;" } : Jvm.MethodName)).before a0 Z = true := hw _ (List.mem_of_getElem? (i := 70) rfl)
theorem w71 {Z : State} {a0 : Array Value} (hw : ∀ d ∈ tables_1, d.before a0 Z = true) : (Jvm.Cond.instanceMethod ({ cls := "java/util/ImmutableCollections$List12", name := "get", desc := "(I)Ljava/lang/Object;" } : Jvm.MethodName)).before a0 Z = true := hw _ (List.mem_of_getElem? (i := 71) rfl)
theorem w72 {Z : State} {a0 : Array Value} (hw : ∀ d ∈ tables_1, d.before a0 Z = true) : (Jvm.Cond.publicMethod ({ cls := "java/util/ImmutableCollections$List12", name := "get", desc := "(I)Ljava/lang/Object;" } : Jvm.MethodName)).before a0 Z = true := hw _ (List.mem_of_getElem? (i := 72) rfl)
theorem w73 {Z : State} {a0 : Array Value} (hw : ∀ d ∈ tables_1, d.before a0 Z = true) : (Jvm.Cond.unhidden "java/util/ImmutableCollections$List12" "get" "(I)Ljava/lang/Object;").before a0 Z = true := hw _ (List.mem_of_getElem? (i := 73) rfl)
theorem w74 {Z : State} {a0 : Array Value} (hw : ∀ d ∈ tables_1, d.before a0 Z = true) : (Jvm.Cond.code ({ cls := "java/util/ImmutableCollections$List12", name := "get", desc := "(I)Ljava/lang/Object;" } : Jvm.MethodName) jdk_44_method_5_code (2 : Nat) (Option.some (Jvm.ClassFile.FieldType.object "java/lang/Object"))).before a0 Z = true := hw _ (List.mem_of_getElem? (i := 74) rfl)
theorem w75 {Z : State} {a0 : Array Value} (hw : ∀ d ∈ tables_1, d.before a0 Z = true) : (Jvm.Cond.classLink "com/example/harborspread/harborspread/SpreadContractLegsPinLaw" (43 : Nat) "com/example/harborspread/harborspread/SpreadContract$Leg").before a0 Z = true := hw _ (List.mem_of_getElem? (i := 75) rfl)
theorem w77 {Z : State} {a0 : Array Value} (hw : ∀ d ∈ tables_1, d.before a0 Z = true) : (Jvm.Cond.methodLink "com/example/harborspread/harborspread/SpreadContractLegsPinLaw" (45 : Nat) ({ cls := "com/example/harborspread/harborspread/SpreadContract", name := "first", desc := "()Lcom/example/harborspread/harborspread/SpreadContract$Leg;" } : Jvm.MethodName)).before a0 Z = true := hw _ (List.mem_of_getElem? (i := 77) rfl)
theorem w78 {Z : State} {a0 : Array Value} (hw : ∀ d ∈ tables_1, d.before a0 Z = true) : (Jvm.Cond.declares ({ cls := "com/example/harborspread/harborspread/SpreadContract", name := "first", desc := "()Lcom/example/harborspread/harborspread/SpreadContract$Leg;" } : Jvm.MethodName)).before a0 Z = true := hw _ (List.mem_of_getElem? (i := 78) rfl)
theorem w79 {Z : State} {a0 : Array Value} (hw : ∀ d ∈ tables_1, d.before a0 Z = true) : (Jvm.Cond.instanceMethod ({ cls := "com/example/harborspread/harborspread/SpreadContract", name := "first", desc := "()Lcom/example/harborspread/harborspread/SpreadContract$Leg;" } : Jvm.MethodName)).before a0 Z = true := hw _ (List.mem_of_getElem? (i := 79) rfl)
theorem w80 {Z : State} {a0 : Array Value} (hw : ∀ d ∈ tables_1, d.before a0 Z = true) : (Jvm.Cond.selects "com/example/harborspread/harborspread/SpreadContract" ({ cls := "com/example/harborspread/harborspread/SpreadContract", name := "first", desc := "()Lcom/example/harborspread/harborspread/SpreadContract$Leg;" } : Jvm.MethodName) ({ cls := "com/example/harborspread/harborspread/SpreadContract", name := "first", desc := "()Lcom/example/harborspread/harborspread/SpreadContract$Leg;" } : Jvm.MethodName)).before a0 Z = true := hw _ (List.mem_of_getElem? (i := 80) rfl)
theorem w81 {Z : State} {a0 : Array Value} (hw : ∀ d ∈ tables_1, d.before a0 Z = true) : (Jvm.Cond.code ({ cls := "com/example/harborspread/harborspread/SpreadContract", name := "first", desc := "()Lcom/example/harborspread/harborspread/SpreadContract$Leg;" } : Jvm.MethodName) prog_53_method_8_code (1 : Nat) (Option.some (Jvm.ClassFile.FieldType.object "com/example/harborspread/harborspread/SpreadContract$Leg"))).before a0 Z = true := hw _ (List.mem_of_getElem? (i := 81) rfl)
theorem w82 {Z : State} {a0 : Array Value} (hw : ∀ d ∈ tables_1, d.before a0 Z = true) : (Jvm.Cond.methodLink "com/example/harborspread/harborspread/SpreadContractLegsPinLaw" (49 : Nat) ({ cls := "com/example/harborspread/harborspread/SpreadContract", name := "second", desc := "()Lcom/example/harborspread/harborspread/SpreadContract$Leg;" } : Jvm.MethodName)).before a0 Z = true := hw _ (List.mem_of_getElem? (i := 82) rfl)
theorem w83 {Z : State} {a0 : Array Value} (hw : ∀ d ∈ tables_1, d.before a0 Z = true) : (Jvm.Cond.declares ({ cls := "com/example/harborspread/harborspread/SpreadContract", name := "second", desc := "()Lcom/example/harborspread/harborspread/SpreadContract$Leg;" } : Jvm.MethodName)).before a0 Z = true := hw _ (List.mem_of_getElem? (i := 83) rfl)
theorem w84 {Z : State} {a0 : Array Value} (hw : ∀ d ∈ tables_1, d.before a0 Z = true) : (Jvm.Cond.instanceMethod ({ cls := "com/example/harborspread/harborspread/SpreadContract", name := "second", desc := "()Lcom/example/harborspread/harborspread/SpreadContract$Leg;" } : Jvm.MethodName)).before a0 Z = true := hw _ (List.mem_of_getElem? (i := 84) rfl)
theorem w85 {Z : State} {a0 : Array Value} (hw : ∀ d ∈ tables_1, d.before a0 Z = true) : (Jvm.Cond.selects "com/example/harborspread/harborspread/SpreadContract" ({ cls := "com/example/harborspread/harborspread/SpreadContract", name := "second", desc := "()Lcom/example/harborspread/harborspread/SpreadContract$Leg;" } : Jvm.MethodName) ({ cls := "com/example/harborspread/harborspread/SpreadContract", name := "second", desc := "()Lcom/example/harborspread/harborspread/SpreadContract$Leg;" } : Jvm.MethodName)).before a0 Z = true := hw _ (List.mem_of_getElem? (i := 85) rfl)
theorem w86 {Z : State} {a0 : Array Value} (hw : ∀ d ∈ tables_1, d.before a0 Z = true) : (Jvm.Cond.code ({ cls := "com/example/harborspread/harborspread/SpreadContract", name := "second", desc := "()Lcom/example/harborspread/harborspread/SpreadContract$Leg;" } : Jvm.MethodName) prog_53_method_9_code (1 : Nat) (Option.some (Jvm.ClassFile.FieldType.object "com/example/harborspread/harborspread/SpreadContract$Leg"))).before a0 Z = true := hw _ (List.mem_of_getElem? (i := 86) rfl)
theorem w87 {Z : State} {a0 : Array Value} (hw : ∀ d ∈ tables_1, d.before a0 Z = true) : (Jvm.Cond.methodLink "com/example/harborspread/harborspread/SpreadContractLegsPinLaw" (52 : Nat) ({ cls := "com/example/harborspread/harborspread/SpreadContract$Leg", name := "product", desc := "()Lcom/example/harborspread/harborspread/Product;" } : Jvm.MethodName)).before a0 Z = true := hw _ (List.mem_of_getElem? (i := 87) rfl)
theorem w88 {Z : State} {a0 : Array Value} (hw : ∀ d ∈ tables_1, d.before a0 Z = true) : (Jvm.Cond.declares ({ cls := "com/example/harborspread/harborspread/SpreadContract$Leg", name := "product", desc := "()Lcom/example/harborspread/harborspread/Product;" } : Jvm.MethodName)).before a0 Z = true := hw _ (List.mem_of_getElem? (i := 88) rfl)
theorem w89 {Z : State} {a0 : Array Value} (hw : ∀ d ∈ tables_1, d.before a0 Z = true) : (Jvm.Cond.instanceMethod ({ cls := "com/example/harborspread/harborspread/SpreadContract$Leg", name := "product", desc := "()Lcom/example/harborspread/harborspread/Product;" } : Jvm.MethodName)).before a0 Z = true := hw _ (List.mem_of_getElem? (i := 89) rfl)
theorem w90 {Z : State} {a0 : Array Value} (hw : ∀ d ∈ tables_1, d.before a0 Z = true) : (Jvm.Cond.selects "com/example/harborspread/harborspread/SpreadContract$Leg" ({ cls := "com/example/harborspread/harborspread/SpreadContract$Leg", name := "product", desc := "()Lcom/example/harborspread/harborspread/Product;" } : Jvm.MethodName) ({ cls := "com/example/harborspread/harborspread/SpreadContract$Leg", name := "product", desc := "()Lcom/example/harborspread/harborspread/Product;" } : Jvm.MethodName)).before a0 Z = true := hw _ (List.mem_of_getElem? (i := 90) rfl)
theorem w91 {Z : State} {a0 : Array Value} (hw : ∀ d ∈ tables_1, d.before a0 Z = true) : (Jvm.Cond.initialized "com/example/harborspread/harborspread/SpreadContract$Leg").before a0 Z = true := hw _ (List.mem_of_getElem? (i := 91) rfl)
theorem w92 {Z : State} {a0 : Array Value} (hw : ∀ d ∈ tables_1, d.before a0 Z = true) : (Jvm.Cond.code ({ cls := "com/example/harborspread/harborspread/SpreadContract$Leg", name := "product", desc := "()Lcom/example/harborspread/harborspread/Product;" } : Jvm.MethodName) prog_54_method_4_code (1 : Nat) (Option.some (Jvm.ClassFile.FieldType.object "com/example/harborspread/harborspread/Product"))).before a0 Z = true := hw _ (List.mem_of_getElem? (i := 92) rfl)
theorem w93 {Z : State} {a0 : Array Value} (hw : ∀ d ∈ tables_1, d.before a0 Z = true) : (Jvm.Cond.fieldLink "com/example/harborspread/harborspread/SpreadContract$Leg" (7 : Nat) "com/example/harborspread/harborspread/SpreadContract$Leg" "product" "Lcom/example/harborspread/harborspread/Product;").before a0 Z = true := hw _ (List.mem_of_getElem? (i := 93) rfl)
theorem w95 {Z : State} {a0 : Array Value} (hw : ∀ d ∈ tables_1, d.before a0 Z = true) : (Jvm.Cond.laysStatic "com/example/harborspread/harborspread/Product" "HO" "Lcom/example/harborspread/harborspread/Product;").before a0 Z = true := hw _ (List.mem_of_getElem? (i := 95) rfl)
theorem w96 {Z : State} {a0 : Array Value} (hw : ∀ d ∈ tables_1, d.before a0 Z = true) : (Jvm.Cond.fieldLink "com/example/harborspread/harborspread/SpreadContractLegsPinLaw" (56 : Nat) "com/example/harborspread/harborspread/Product" "HO" "Lcom/example/harborspread/harborspread/Product;").before a0 Z = true := hw _ (List.mem_of_getElem? (i := 96) rfl)
theorem w97 {Z : State} {a0 : Array Value} (hw : ∀ d ∈ tables_1, d.before a0 Z = true) : (Jvm.Cond.fieldLink "com/example/harborspread/harborspread/SpreadContractLegsPinLaw" (26 : Nat) "com/example/harborspread/harborspread/SpreadContract" "ULSD_GASOIL_METRIC_TONS" "Lcom/example/harborspread/harborspread/SpreadContract;").before a0 Z = true := hw _ (List.mem_of_getElem? (i := 97) rfl)
theorem w98 {Z : State} {a0 : Array Value} (hw : ∀ d ∈ tables_1, d.before a0 Z = true) : (Jvm.Cond.laysStatic "com/example/harborspread/harborspread/SpreadContract" "ULSD_GASOIL_METRIC_TONS" "Lcom/example/harborspread/harborspread/SpreadContract;").before a0 Z = true := hw _ (List.mem_of_getElem? (i := 98) rfl)
theorem w99 {Z : State} {a0 : Array Value} (hw : ∀ d ∈ tables_1, d.before a0 Z = true) : (Jvm.Cond.fieldLink "com/example/harborspread/harborspread/SpreadContractLegsPinLaw" (23 : Nat) "com/example/harborspread/harborspread/Product" "G" "Lcom/example/harborspread/harborspread/Product;").before a0 Z = true := hw _ (List.mem_of_getElem? (i := 99) rfl)
theorem w100 {Z : State} {a0 : Array Value} (hw : ∀ d ∈ tables_1, d.before a0 Z = true) : (Jvm.Cond.laysStatic "com/example/harborspread/harborspread/Product" "G" "Lcom/example/harborspread/harborspread/Product;").before a0 Z = true := hw _ (List.mem_of_getElem? (i := 100) rfl)
theorem w101 {Z : State} {a0 : Array Value} (hw : ∀ d ∈ tables_1, d.before a0 Z = true) : (Jvm.Cond.fieldLink "com/example/harborspread/harborspread/SpreadContractLegsPinLaw" (20 : Nat) "com/example/harborspread/harborspread/SpreadContract" "ULSD_GASOIL_BARRELS" "Lcom/example/harborspread/harborspread/SpreadContract;").before a0 Z = true := hw _ (List.mem_of_getElem? (i := 101) rfl)
theorem w102 {Z : State} {a0 : Array Value} (hw : ∀ d ∈ tables_1, d.before a0 Z = true) : (Jvm.Cond.laysStatic "com/example/harborspread/harborspread/SpreadContract" "ULSD_GASOIL_BARRELS" "Lcom/example/harborspread/harborspread/SpreadContract;").before a0 Z = true := hw _ (List.mem_of_getElem? (i := 102) rfl)
set_option maxRecDepth 65536 in
set_option maxHeartbeats 40000000 in
theorem b6 (l : Launch) (Z : State) (a0 : Array Value) (hw : ∀ d ∈ tables_1, d.before a0 Z = true) (a1 : Addr) (h0 : Heap) (n0 : Nat) (O0 : Old Z n0 h0)  :
    Con l Z (⟨"java/util/AbstractCollection", "<init>", "()V"⟩ : MethodName) jdk_22_method_1_code 1 none ({ frames := 1, cells := 0, slots := 0, locals := 12 } : Room) #[(.ref a1)] h0 (fun v h L => v = none ∧ Fr n0 L ∧ Keep h0 h []) := by
  refine Con.of (plainFor_of_name pn_0) ?_
  intro p e s m below meth c s₁ hx hby hml hZ hown hnm hret hlk X0 e0
  have N0 := Fr.nil n0
  refine go_cast (g' := mkF m 0 #[.val (.ref a1)] []) ?_ (by first | (simp [entryFrame, mkF, argsToLocals, Value.category]; done) | rfl)
  refine go_aload_n (q := 1) X0 hx (hb hby d6_0) (v := (.ref a1)) rfl rfl rfl ?_
  refine go_initO (q := 4) (W := 0) X0 hx hZ hown (w45 hw) (w46 hw) (w47 hw) e0 (by rw [hml]; rfl) (hb hby d6_1) (by decide) (Nat.le_of_eq rfl) (by decide) rfl ?_
  intro T1 X1 e1
  refine go_ret0 X1 hx hret hlk e1 (hb hby d6_4) (by decide) (by decide) ?_
  exact ⟨rfl, N0, (Keep.refl h0 [])⟩
set_option maxRecDepth 65536 in
set_option maxHeartbeats 40000000 in
theorem b5 (l : Launch) (Z : State) (a0 : Array Value) (hw : ∀ d ∈ tables_1, d.before a0 Z = true) (a1 : Addr) (h0 : Heap) (n0 : Nat) (O0 : Old Z n0 h0)  :
    Con l Z (⟨"java/util/ImmutableCollections$AbstractImmutableCollection", "<init>", "()V"⟩ : MethodName) jdk_47_method_1_code 1 none ({ frames := 2, cells := 0, slots := 0, locals := 24 } : Room) #[(.ref a1)] h0 (fun v h L => v = none ∧ Fr n0 L ∧ Keep h0 h []) := by
  refine Con.of (plainFor_of_name pn_1) ?_
  intro p e s m below meth c s₁ hx hby hml hZ hown hnm hret hlk X0 e0
  have N0 := Fr.nil n0
  refine go_cast (g' := mkF m 0 #[.val (.ref a1)] []) ?_ (by first | (simp [entryFrame, mkF, argsToLocals, Value.category]; done) | rfl)
  refine go_aload_n (q := 1) X0 hx (hb hby d5_0) (v := (.ref a1)) rfl rfl rfl ?_
  refine go_special (q := 4) X0 hx hZ hown (y := (⟨"java/util/AbstractCollection", "<init>", "()V"⟩ : MethodName)) (a := a1) rfl (w39 hw) (w40 hw) (w43 hw) (w44 hw) (by decide) e0 (b6 l Z a0 hw a1 h0 n0 O0 ) (argsL := []) (rest := []) rfl (lenOf pd_0 rfl) rfl (by rw [hml]; rfl) (W := 0) (Nat.le_of_eq rfl) (hb hby d5_1) (by decide) (by decide) (by decide) (by decide) rfl ?_
  rintro T1 h1 _ L1 X1 e1 ⟨rfl, M1, K1⟩
  have N1 := Fr.app N0 M1
  refine go_ret0 X1 hx hret hlk e1 (hb hby d5_4) (by decide) (by decide) ?_
  exact ⟨rfl, N1, ((Keep.refl h0 []).trans K1 all0)⟩
set_option maxRecDepth 65536 in
set_option maxHeartbeats 40000000 in
theorem b4 (l : Launch) (Z : State) (a0 : Array Value) (hw : ∀ d ∈ tables_1, d.before a0 Z = true) (a1 : Addr) (h0 : Heap) (n0 : Nat) (O0 : Old Z n0 h0)  :
    Con l Z (⟨"java/util/ImmutableCollections$AbstractImmutableList", "<init>", "()V"⟩ : MethodName) jdk_46_method_1_code 1 none ({ frames := 3, cells := 0, slots := 0, locals := 36 } : Room) #[(.ref a1)] h0 (fun v h L => v = none ∧ Fr n0 L ∧ Keep h0 h []) := by
  refine Con.of (plainFor_of_name pn_2) ?_
  intro p e s m below meth c s₁ hx hby hml hZ hown hnm hret hlk X0 e0
  have N0 := Fr.nil n0
  refine go_cast (g' := mkF m 0 #[.val (.ref a1)] []) ?_ (by first | (simp [entryFrame, mkF, argsToLocals, Value.category]; done) | rfl)
  refine go_aload_n (q := 1) X0 hx (hb hby d4_0) (v := (.ref a1)) rfl rfl rfl ?_
  refine go_special (q := 4) X0 hx hZ hown (y := (⟨"java/util/ImmutableCollections$AbstractImmutableCollection", "<init>", "()V"⟩ : MethodName)) (a := a1) rfl (w33 hw) (w34 hw) (w37 hw) (w38 hw) (by decide) e0 (b5 l Z a0 hw a1 h0 n0 O0 ) (argsL := []) (rest := []) rfl (lenOf pd_0 rfl) rfl (by rw [hml]; rfl) (W := 0) (Nat.le_of_eq rfl) (hb hby d4_1) (by decide) (by decide) (by decide) (by decide) rfl ?_
  rintro T1 h1 _ L1 X1 e1 ⟨rfl, M1, K1⟩
  have N1 := Fr.app N0 M1
  refine go_ret0 X1 hx hret hlk e1 (hb hby d4_4) (by decide) (by decide) ?_
  exact ⟨rfl, N1, ((Keep.refl h0 []).trans K1 all0)⟩
set_option maxRecDepth 65536 in
set_option maxHeartbeats 40000000 in
theorem b8 (l : Launch) (Z : State) (a0 : Array Value) (hw : ∀ d ∈ tables_1, d.before a0 Z = true) (a1 : Addr) (h0 : Heap) (n0 : Nat) (O0 : Old Z n0 h0)  :
    Con l Z (⟨"java/util/Objects", "requireNonNull", "(Ljava/lang/Object;)Ljava/lang/Object;"⟩ : MethodName) jdk_31_method_10_code 1 (some (.object "java/lang/Object")) ({ frames := 0, cells := 0, slots := 0, locals := 0 } : Room) #[(.ref a1)] h0 (fun v h L => v = some (.ref a1) ∧ Fr n0 L ∧ Keep h0 h []) := by
  refine Con.of (plainFor_of_name pn_3) ?_
  intro p e s m below meth c s₁ hx hby hml hZ hown hnm hret hlk X0 e0
  have N0 := Fr.nil n0
  refine go_cast (g' := mkF m 0 #[.val (.ref a1)] []) ?_ (by first | (simp [entryFrame, mkF, argsToLocals, Value.category]; done) | rfl)
  refine go_aload_n (q := 1) X0 hx (hb hby d8_0) (v := (.ref a1)) rfl rfl rfl ?_
  refine go_ifnonnullY (q := 12) X0 hx (hb hby d8_1) (by decide) (by decide) ?_
  refine go_aload_n (q := 13) X0 hx (hb hby d8_12) (v := (.ref a1)) rfl rfl rfl ?_
  refine go_retA X0 hx hret hlk e0 (hb hby d8_13) rfl rfl rfl (by decide) (by decide) ?_
  exact ⟨rfl, N0, (Keep.refl h0 [])⟩
set_option maxRecDepth 65536 in
set_option maxHeartbeats 40000000 in
theorem b3 (l : Launch) (Z : State) (a0 : Array Value) (hw : ∀ d ∈ tables_1, d.before a0 Z = true) (a1 : Addr) (a2 : Addr) (a3 : Addr) (u1 : Value) (u2 : Value) (h0 : Heap) (n0 : Nat) (O0 : Old Z n0 h0) (E_0 : Exa Z h0 a1 "java/util/ImmutableCollections$List12") (F_1 : Fld Z h0 a1 "java/util/ImmutableCollections$List12" "e0" "Ljava/lang/Object;" u1) (F_2 : Fld Z h0 a1 "java/util/ImmutableCollections$List12" "e1" "Ljava/lang/Object;" u2) (g_3 : n0 ≤ a1) :
    Con l Z (⟨"java/util/ImmutableCollections$List12", "<init>", "(Ljava/lang/Object;Ljava/lang/Object;)V"⟩ : MethodName) jdk_44_method_2_code 3 none ({ frames := 4, cells := 0, slots := 0, locals := 48 } : Room) #[(.ref a1), (.ref a2), (.ref a3)] h0 (fun v h L => v = none ∧ Fr n0 L ∧ Keep h0 h [a1] ∧ Exa Z h a1 "java/util/ImmutableCollections$List12" ∧ Fld Z h a1 "java/util/ImmutableCollections$List12" "e0" "Ljava/lang/Object;" (.ref a2) ∧ Fld Z h a1 "java/util/ImmutableCollections$List12" "e1" "Ljava/lang/Object;" (.ref a3)) := by
  refine Con.of (plainFor_of_name pn_4) ?_
  intro p e s m below meth c s₁ hx hby hml hZ hown hnm hret hlk X0 e0
  have N0 := Fr.nil n0
  refine go_cast (g' := mkF m 0 #[.val (.ref a1), .val (.ref a2), .val (.ref a3)] []) ?_ (by first | (simp [entryFrame, mkF, argsToLocals, Value.category]; done) | rfl)
  refine go_aload_n (q := 1) X0 hx (hb hby d3_0) (v := (.ref a1)) rfl rfl rfl ?_
  refine go_special (q := 4) X0 hx hZ hown (y := (⟨"java/util/ImmutableCollections$AbstractImmutableList", "<init>", "()V"⟩ : MethodName)) (a := a1) rfl (w27 hw) (w28 hw) (w31 hw) (w32 hw) (by decide) e0 (b4 l Z a0 hw a1 h0 n0 O0 ) (argsL := []) (rest := []) rfl (lenOf pd_0 rfl) rfl (by rw [hml]; rfl) (W := 0) (Nat.le_of_eq rfl) (hb hby d3_1) (by decide) (by decide) (by decide) (by decide) rfl ?_
  rintro T1 h1 _ L1 X1 e1 ⟨rfl, M1, K1⟩
  have N1 := Fr.app N0 M1
  refine go_aload_n (q := 5) X1 hx (hb hby d3_4) (v := (.ref a1)) rfl rfl rfl ?_
  refine go_aload_n (q := 6) X1 hx (hb hby d3_5) (v := (.ref a2)) rfl rfl rfl ?_
  have O2 : Old Z n0 h1 := (O0.keep K1 all0)
  refine go_static (q := 9) X1 hx hZ hown (y := (⟨"java/util/Objects", "requireNonNull", "(Ljava/lang/Object;)Ljava/lang/Object;"⟩ : MethodName)) (w48 hw) (w49 hw) (w50 hw) (w51 hw) (by decide) e1 (b8 l Z a0 hw a2 h1 n0 O2 ) (argsL := [(.ref a2)]) (rest := [(.ref a1)]) rfl (lenOf pd_1 rfl) rfl (by rw [hml]; rfl) (W := 1) (Nat.le_of_eq rfl) (hb hby d3_6) (by decide) (by decide) (by decide) (by decide) rfl ?_
  rintro T3 h3 _ L3 X3 e3 ⟨rfl, M3, K3⟩
  have N3 := Fr.app N1 M3
  have f4 : Exa Z h3 a1 "java/util/ImmutableCollections$List12" := ((E_0.keep K1).keep K3)
  have f5 : Fld Z h3 a1 "java/util/ImmutableCollections$List12" "e0" "Ljava/lang/Object;" u1 := ((F_1.keep K1 nin0).keep K3 nin0)
  refine go_putF (q := 12) (host := "") X3 hx hZ hown (Or.inl (w52 hw)) Via.refl e3 f5 f4 (Or.inr ⟨(w53 hw), rfl, hnm⟩) (w21 hw) (ty := (.object "java/lang/Object")) (by decide) rfl rfl (hb hby d3_9) rfl ?_
  intro T6 h6 X6 e6 W6
  have N6 := Fr.snoc X6 N3 g_3
  have F6 : Fld Z h6 a1 "java/util/ImmutableCollections$List12" "e0" "Ljava/lang/Object;" (.ref a2) := f5.same W6
  refine go_aload_n (q := 13) X6 hx (hb hby d3_12) (v := (.ref a1)) rfl rfl rfl ?_
  refine go_aload_n (q := 14) X6 hx (hb hby d3_13) (v := (.ref a3)) rfl rfl rfl ?_
  have O7 : Old Z n0 h6 := ((O2.keep K3 all0).wr W6 g_3)
  refine go_static (q := 17) X6 hx hZ hown (y := (⟨"java/util/Objects", "requireNonNull", "(Ljava/lang/Object;)Ljava/lang/Object;"⟩ : MethodName)) (w48 hw) (w49 hw) (w50 hw) (w51 hw) (by decide) e6 (b8 l Z a0 hw a3 h6 n0 O7 ) (argsL := [(.ref a3)]) (rest := [(.ref a1)]) rfl (lenOf pd_1 rfl) rfl (by rw [hml]; rfl) (W := 1) (Nat.le_of_eq rfl) (hb hby d3_14) (by decide) (by decide) (by decide) (by decide) rfl ?_
  rintro T8 h8 _ L8 X8 e8 ⟨rfl, M8, K8⟩
  have N8 := Fr.app N6 M8
  have f9 : Exa Z h8 a1 "java/util/ImmutableCollections$List12" := ((f4.wr W6).keep K8)
  have f10 : Fld Z h8 a1 "java/util/ImmutableCollections$List12" "e1" "Ljava/lang/Object;" u2 := ((((F_2.keep K1 nin0).keep K3 nin0).other W6 (Or.inr (slot_ne (Or.inr (w55 hw)) (Or.inr (w53 hw)) (by decide) (t := (.object "java/lang/Object")) (t' := (.object "java/lang/Object")) (by decide) (by decide)))).keep K8 nin0)
  refine go_putF (q := 20) (host := "") X8 hx hZ hown (Or.inl (w54 hw)) Via.refl e8 f10 f9 (Or.inr ⟨(w55 hw), rfl, hnm⟩) (w21 hw) (ty := (.object "java/lang/Object")) (by decide) rfl rfl (hb hby d3_17) rfl ?_
  intro T11 h11 X11 e11 W11
  have N11 := Fr.snoc X11 N8 g_3
  have F11 : Fld Z h11 a1 "java/util/ImmutableCollections$List12" "e1" "Ljava/lang/Object;" (.ref a3) := f10.same W11
  have f12 : Exa Z h11 a1 "java/util/ImmutableCollections$List12" := (f9.wr W11)
  have f13 : Fld Z h11 a1 "java/util/ImmutableCollections$List12" "e0" "Ljava/lang/Object;" (.ref a2) := ((F6.keep K8 nin0).other W11 (Or.inr (slot_ne (Or.inr (w53 hw)) (Or.inr (w55 hw)) (by decide) (t := (.object "java/lang/Object")) (t' := (.object "java/lang/Object")) (by decide) (by decide))))
  refine go_ret0 X11 hx hret hlk e11 (hb hby d3_20) (by decide) (by decide) ?_
  exact ⟨rfl, N11, ((((((Keep.refl h0 [a1]).trans K1 all0).trans K3 all0).wr W6 (Or.inl (List.mem_of_getElem? (i := 0) rfl))).trans K8 all0).wr W11 (Or.inl (List.mem_of_getElem? (i := 0) rfl))), f12, f13, F11⟩
set_option maxRecDepth 65536 in
set_option maxHeartbeats 40000000 in
theorem b2 (l : Launch) (Z : State) (a0 : Array Value) (hw : ∀ d ∈ tables_1, d.before a0 Z = true) (a2 : Addr) (a3 : Addr) (h0 : Heap) (n0 : Nat) (O0 : Old Z n0 h0)  :
    Con l Z (⟨"java/util/List", "of", "(Ljava/lang/Object;Ljava/lang/Object;)Ljava/util/List;"⟩ : MethodName) jdk_40_method_38_code 2 (some (.object "java/util/List")) ({ frames := 5, cells := 1, slots := 2, locals := 63 } : Room) #[(.ref a2), (.ref a3)] h0 (fun v h L => ∃ (r : Addr), v = some (.ref r) ∧ Fr n0 L ∧ Keep h0 h [] ∧ h0.size ≤ r ∧ Exa Z h r "java/util/ImmutableCollections$List12" ∧ Fld Z h r "java/util/ImmutableCollections$List12" "e0" "Ljava/lang/Object;" (.ref a2) ∧ Fld Z h r "java/util/ImmutableCollections$List12" "e1" "Ljava/lang/Object;" (.ref a3)) := by
  refine Con.of (plainFor_of_name pn_5) ?_
  intro p e s m below meth c s₁ hx hby hml hZ hown hnm hret hlk X0 e0
  have N0 := Fr.nil n0
  refine go_cast (g' := mkF m 0 #[.val (.ref a2), .val (.ref a3)] []) ?_ (by first | (simp [entryFrame, mkF, argsToLocals, Value.category]; done) | rfl)
  refine go_new (q := 3) X0 hx hZ hown (w20 hw) (w21 hw) (w22 hw) e0 (hb hby d2_0) (by decide) (by decide) rfl ?_
  intro T1 h1 a1 g1 X1 e1 E1 A1 D1
  have fr1 : n0 ≤ a1 := own_ge O0 g1
  have sn1 : h0.size ≤ a1 := g1 ▸ (Nat.le_refl _)
  have f2 : Fld Z h1 a1 "java/util/ImmutableCollections$List12" "e0" "Ljava/lang/Object;" .null := D1 (Or.inr (w53 hw)) (ty := (.object "java/lang/Object")) (by decide)
  have f3 : Fld Z h1 a1 "java/util/ImmutableCollections$List12" "e1" "Ljava/lang/Object;" .null := D1 (Or.inr (w55 hw)) (ty := (.object "java/lang/Object")) (by decide)
  refine go_dup (q := 4) X1 hx (hb hby d2_3) rfl rfl ?_
  refine go_aload_n (q := 5) X1 hx (hb hby d2_4) (v := (.ref a2)) rfl rfl rfl ?_
  refine go_aload_n (q := 6) X1 hx (hb hby d2_5) (v := (.ref a3)) rfl rfl rfl ?_
  have O4 : Old Z n0 h1 := (O0.ext E1)
  refine go_special (q := 9) X1 hx hZ hown (y := (⟨"java/util/ImmutableCollections$List12", "<init>", "(Ljava/lang/Object;Ljava/lang/Object;)V"⟩ : MethodName)) (a := a1) rfl (w23 hw) (w24 hw) (w22 hw) (w26 hw) (by decide) e1 (b3 l Z a0 hw a1 a2 a3 .null .null h1 n0 O4 A1 f2 f3 fr1) (argsL := [(.ref a2), (.ref a3)]) (rest := [(.ref a1)]) rfl (lenOf pd_2 rfl) rfl (by rw [hml]; rfl) (W := 1) (Nat.le_of_eq rfl) (hb hby d2_6) (by decide) (by decide) (by decide) (by decide) rfl ?_
  rintro T5 h5 _ L5 X5 e5 ⟨rfl, M5, K5, p5_0, p5_1, p5_2⟩
  have N5 := Fr.app N0 M5
  refine go_retA X5 hx hret hlk e5 (hb hby d2_9) rfl rfl rfl (by decide) (by decide) ?_
  exact ⟨a1, rfl, N5, (((Keep.refl h0 []).ext E1).trans K5 (allS (P := fun x => x ∈ [] ∨ h0.size ≤ x) (Or.inr sn1) all0)), sn1, p5_0, p5_1, p5_2⟩
set_option maxRecDepth 65536 in
set_option maxHeartbeats 40000000 in
theorem b1 (l : Launch) (Z : State) (a0 : Array Value) (hw : ∀ d ∈ tables_1, d.before a0 Z = true) (a1 : Addr) (f : Addr) (g : Addr) (h0 : Heap) (n0 : Nat) (O0 : Old Z n0 h0) (P_0 : Fld Z Z.heap a1 "com/example/harborspread/harborspread/SpreadContract" "first" "Lcom/example/harborspread/harborspread/SpreadContract$Leg;" (.ref f)) (P_1 : Fld Z Z.heap a1 "com/example/harborspread/harborspread/SpreadContract" "second" "Lcom/example/harborspread/harborspread/SpreadContract$Leg;" (.ref g)) :
    Con l Z (⟨"com/example/harborspread/harborspread/SpreadContract", "legs", "()Ljava/util/List;"⟩ : MethodName) prog_53_method_10_code 1 (some (.object "java/util/List")) ({ frames := 6, cells := 1, slots := 2, locals := 76 } : Room) #[(.ref a1)] h0 (fun v h L => ∃ (r : Addr), v = some (.ref r) ∧ Fr n0 L ∧ Keep h0 h [] ∧ h0.size ≤ r ∧ Exa Z h r "java/util/ImmutableCollections$List12" ∧ Fld Z h r "java/util/ImmutableCollections$List12" "e0" "Ljava/lang/Object;" (.ref f) ∧ Fld Z h r "java/util/ImmutableCollections$List12" "e1" "Ljava/lang/Object;" (.ref g)) := by
  refine Con.of (plainFor_of_name pn_6) ?_
  intro p e s m below meth c s₁ hx hby hml hZ hown hnm hret hlk X0 e0
  have N0 := Fr.nil n0
  refine go_cast (g' := mkF m 0 #[.val (.ref a1)] []) ?_ (by first | (simp [entryFrame, mkF, argsToLocals, Value.category]; done) | rfl)
  refine go_aload_n (q := 1) X0 hx (hb hby d1_0) (v := (.ref a1)) rfl rfl rfl ?_
  refine go_getF (q := 4) (host := "") X0 hx hZ hown (Or.inl (w12 hw)) Via.refl e0 (P_0.ext O0.2) (hb hby d1_1) rfl ?_
  intro T1 X1 e1
  refine go_aload_n (q := 5) X1 hx (hb hby d1_4) (v := (.ref a1)) rfl rfl rfl ?_
  refine go_getF (q := 8) (host := "") X1 hx hZ hown (Or.inl (w14 hw)) Via.refl e1 (P_1.ext O0.2) (hb hby d1_5) rfl ?_
  intro T2 X2 e2
  refine go_static (q := 11) X2 hx hZ hown (y := (⟨"java/util/List", "of", "(Ljava/lang/Object;Ljava/lang/Object;)Ljava/util/List;"⟩ : MethodName)) (w16 hw) (w17 hw) (w18 hw) (w19 hw) (by decide) e2 (b2 l Z a0 hw f g h0 n0 O0 ) (argsL := [(.ref f), (.ref g)]) (rest := []) rfl (lenOf pd_3 rfl) rfl (by rw [hml]; rfl) (W := 0) (Nat.le_of_eq rfl) (hb hby d1_8) (by decide) (by decide) (by decide) (by decide) rfl ?_
  rintro T3 h3 _ L3 X3 e3 ⟨r_3, rfl, M3, K3, p3_0, p3_1, p3_2, p3_3⟩
  have N3 := Fr.app N0 M3
  have fr_r_3 : n0 ≤ r_3 := Nat.le_trans (own_le O0) p3_0
  have sn_r_3 : h0.size ≤ r_3 := Nat.le_trans (Nat.le_refl _) p3_0
  refine go_retA X3 hx hret hlk e3 (hb hby d1_11) rfl rfl rfl (by decide) (by decide) ?_
  exact ⟨r_3, rfl, N3, ((Keep.refl h0 []).trans K3 all0), sn_r_3, p3_1, p3_2, p3_3⟩
set_option maxRecDepth 65536 in
set_option maxHeartbeats 40000000 in
theorem b9 (l : Launch) (Z : State) (a0 : Array Value) (hw : ∀ d ∈ tables_1, d.before a0 Z = true) (a1 : Addr) (g : Addr) (em : Addr) (h0 : Heap) (n0 : Nat) (O0 : Old Z n0 h0) (F_0 : Fld Z h0 a1 "java/util/ImmutableCollections$List12" "e1" "Ljava/lang/Object;" (.ref g)) (S_1 : Sta Z Z.heap "java/util/ImmutableCollections" "EMPTY" "Ljava/lang/Object;" (.ref em)) (ne_2 : g ≠ em) :
    Con l Z (⟨"java/util/ImmutableCollections$List12", "size", "()I"⟩ : MethodName) jdk_44_method_3_code 1 (some .int) ({ frames := 0, cells := 0, slots := 0, locals := 0 } : Room) #[(.ref a1)] h0 (fun v h L => v = some (.int (2 : Int32)) ∧ Fr n0 L ∧ Keep h0 h []) := by
  refine Con.of (plainFor_of_name pn_4) ?_
  intro p e s m below meth c s₁ hx hby hml hZ hown hnm hret hlk X0 e0
  have N0 := Fr.nil n0
  refine go_cast (g' := mkF m 0 #[.val (.ref a1)] []) ?_ (by first | (simp [entryFrame, mkF, argsToLocals, Value.category]; done) | rfl)
  refine go_aload_n (q := 1) X0 hx (hb hby d9_0) (v := (.ref a1)) rfl rfl rfl ?_
  refine go_getF (q := 4) (host := "") X0 hx hZ hown (Or.inl (w54 hw)) Via.refl e0 F_0 (hb hby d9_1) rfl ?_
  intro T1 X1 e1
  refine go_getS (q := 7) (host := "java/util/ImmutableCollections") X1 hx hZ hown (Or.inr (w65 hw)) Via.refl e1 (Sta.ext O0.2 S_1) (hb hby d9_4) rfl ?_
  intro T2 X2 e2
  refine go_acmp (q := 10) (same := false) X2 hx (hb hby d9_7) rfl rfl (decide_eq_false fun q => ne_2 (Value.ref.inj q)) (by decide) (by decide) ?_
  refine go_iconst (q := 11) X2 hx (hb hby d9_10) (v := (2 : Int32)) (by decide) rfl ?_
  refine go_goto (q := 15) X2 hx (hb hby d9_11) (by decide) (by decide) ?_
  refine go_retI X2 hx hret hlk e2 (hb hby d9_15) (by simp) rfl (by decide) (by decide) ?_
  exact ⟨rfl, N0, (Keep.refl h0 [])⟩
set_option maxRecDepth 65536 in
set_option maxHeartbeats 40000000 in
theorem b10 (l : Launch) (Z : State) (a0 : Array Value) (hw : ∀ d ∈ tables_1, d.before a0 Z = true) (a1 : Addr) (f : Addr) (h0 : Heap) (n0 : Nat) (O0 : Old Z n0 h0) (F_0 : Fld Z h0 a1 "java/util/ImmutableCollections$List12" "e0" "Ljava/lang/Object;" (.ref f)) :
    Con l Z (⟨"java/util/ImmutableCollections$List12", "get", "(I)Ljava/lang/Object;"⟩ : MethodName) jdk_44_method_5_code 2 (some (.object "java/lang/Object")) ({ frames := 0, cells := 0, slots := 0, locals := 0 } : Room) #[(.ref a1), (.int (0 : Int32))] h0 (fun v h L => v = some (.ref f) ∧ Fr n0 L ∧ Keep h0 h []) := by
  refine Con.of (plainFor_of_name pn_4) ?_
  intro p e s m below meth c s₁ hx hby hml hZ hown hnm hret hlk X0 e0
  have N0 := Fr.nil n0
  refine go_cast (g' := mkF m 0 #[.val (.ref a1), .val (.int (0 : Int32))] []) ?_ (by first | (simp [entryFrame, mkF, argsToLocals, Value.category]; done) | rfl)
  refine go_iload_n (q := 1) X0 hx (hb hby d10_0) (v := (0 : Int32)) rfl rfl ?_
  refine go_ifN (q := 4) X0 hx (hb hby d10_1) (XT.i0_ne_f (by decide)) rfl ?_
  refine go_aload_n (q := 5) X0 hx (hb hby d10_4) (v := (.ref a1)) rfl rfl rfl ?_
  refine go_getF (q := 8) (host := "") X0 hx hZ hown (Or.inl (w52 hw)) Via.refl e0 F_0 (hb hby d10_5) rfl ?_
  intro T1 X1 e1
  refine go_retA X1 hx hret hlk e1 (hb hby d10_8) rfl rfl rfl (by decide) (by decide) ?_
  exact ⟨rfl, N0, (Keep.refl h0 [])⟩
set_option maxRecDepth 65536 in
set_option maxHeartbeats 40000000 in
theorem b10_1 (l : Launch) (Z : State) (a0 : Array Value) (hw : ∀ d ∈ tables_1, d.before a0 Z = true) (a1 : Addr) (g : Addr) (em : Addr) (h0 : Heap) (n0 : Nat) (O0 : Old Z n0 h0) (F_0 : Fld Z h0 a1 "java/util/ImmutableCollections$List12" "e1" "Ljava/lang/Object;" (.ref g)) (S_1 : Sta Z Z.heap "java/util/ImmutableCollections" "EMPTY" "Ljava/lang/Object;" (.ref em)) (ne_2 : g ≠ em) :
    Con l Z (⟨"java/util/ImmutableCollections$List12", "get", "(I)Ljava/lang/Object;"⟩ : MethodName) jdk_44_method_5_code 2 (some (.object "java/lang/Object")) ({ frames := 0, cells := 0, slots := 0, locals := 0 } : Room) #[(.ref a1), (.int (1 : Int32))] h0 (fun v h L => v = some (.ref g) ∧ Fr n0 L ∧ Keep h0 h []) := by
  refine Con.of (plainFor_of_name pn_4) ?_
  intro p e s m below meth c s₁ hx hby hml hZ hown hnm hret hlk X0 e0
  have N0 := Fr.nil n0
  refine go_cast (g' := mkF m 0 #[.val (.ref a1), .val (.int (1 : Int32))] []) ?_ (by first | (simp [entryFrame, mkF, argsToLocals, Value.category]; done) | rfl)
  refine go_iload_n (q := 1) X0 hx (hb hby d10_0) (v := (1 : Int32)) rfl rfl ?_
  refine go_ifY (q := 9) X0 hx (hb hby d10_1) (XT.i0_ne_t (by decide)) (by decide) (by decide) ?_
  refine go_iload_n (q := 10) X0 hx (hb hby d10_9) (v := (1 : Int32)) rfl rfl ?_
  refine go_iconst (q := 11) X0 hx (hb hby d10_10) (v := (1 : Int32)) (by decide) rfl ?_
  refine go_icmpN (q := 14) X0 hx (hb hby d10_11) (XT.ii_ne_f (by decide)) rfl ?_
  refine go_aload_n (q := 15) X0 hx (hb hby d10_14) (v := (.ref a1)) rfl rfl rfl ?_
  refine go_getF (q := 18) (host := "") X0 hx hZ hown (Or.inl (w54 hw)) Via.refl e0 F_0 (hb hby d10_15) rfl ?_
  intro T1 X1 e1
  refine go_getS (q := 21) (host := "java/util/ImmutableCollections") X1 hx hZ hown (Or.inr (w65 hw)) Via.refl e1 (Sta.ext O0.2 S_1) (hb hby d10_18) rfl ?_
  intro T2 X2 e2
  refine go_acmp (q := 24) (same := false) X2 hx (hb hby d10_21) rfl rfl (decide_eq_false fun q => ne_2 (Value.ref.inj q)) (by decide) (by decide) ?_
  refine go_aload_n (q := 25) X2 hx (hb hby d10_24) (v := (.ref a1)) rfl rfl rfl ?_
  refine go_getF (q := 28) (host := "") X2 hx hZ hown (Or.inl (w54 hw)) Via.refl e2 F_0 (hb hby d10_25) rfl ?_
  intro T3 X3 e3
  refine go_retA X3 hx hret hlk e3 (hb hby d10_28) rfl rfl rfl (by decide) (by decide) ?_
  exact ⟨rfl, N0, (Keep.refl h0 [])⟩
set_option maxRecDepth 65536 in
set_option maxHeartbeats 40000000 in
theorem b11 (l : Launch) (Z : State) (a0 : Array Value) (hw : ∀ d ∈ tables_1, d.before a0 Z = true) (a1 : Addr) (f : Addr) (h0 : Heap) (n0 : Nat) (O0 : Old Z n0 h0) (P_0 : Fld Z Z.heap a1 "com/example/harborspread/harborspread/SpreadContract" "first" "Lcom/example/harborspread/harborspread/SpreadContract$Leg;" (.ref f)) :
    Con l Z (⟨"com/example/harborspread/harborspread/SpreadContract", "first", "()Lcom/example/harborspread/harborspread/SpreadContract$Leg;"⟩ : MethodName) prog_53_method_8_code 1 (some (.object "com/example/harborspread/harborspread/SpreadContract$Leg")) ({ frames := 0, cells := 0, slots := 0, locals := 0 } : Room) #[(.ref a1)] h0 (fun v h L => v = some (.ref f) ∧ Fr n0 L ∧ Keep h0 h []) := by
  refine Con.of (plainFor_of_name pn_6) ?_
  intro p e s m below meth c s₁ hx hby hml hZ hown hnm hret hlk X0 e0
  have N0 := Fr.nil n0
  refine go_cast (g' := mkF m 0 #[.val (.ref a1)] []) ?_ (by first | (simp [entryFrame, mkF, argsToLocals, Value.category]; done) | rfl)
  refine go_aload_n (q := 1) X0 hx (hb hby d11_0) (v := (.ref a1)) rfl rfl rfl ?_
  refine go_getF (q := 4) (host := "") X0 hx hZ hown (Or.inl (w12 hw)) Via.refl e0 (P_0.ext O0.2) (hb hby d11_1) rfl ?_
  intro T1 X1 e1
  refine go_retA X1 hx hret hlk e1 (hb hby d11_4) rfl rfl rfl (by decide) (by decide) ?_
  exact ⟨rfl, N0, (Keep.refl h0 [])⟩
set_option maxRecDepth 65536 in
set_option maxHeartbeats 40000000 in
theorem b12 (l : Launch) (Z : State) (a0 : Array Value) (hw : ∀ d ∈ tables_1, d.before a0 Z = true) (a1 : Addr) (g : Addr) (h0 : Heap) (n0 : Nat) (O0 : Old Z n0 h0) (P_0 : Fld Z Z.heap a1 "com/example/harborspread/harborspread/SpreadContract" "second" "Lcom/example/harborspread/harborspread/SpreadContract$Leg;" (.ref g)) :
    Con l Z (⟨"com/example/harborspread/harborspread/SpreadContract", "second", "()Lcom/example/harborspread/harborspread/SpreadContract$Leg;"⟩ : MethodName) prog_53_method_9_code 1 (some (.object "com/example/harborspread/harborspread/SpreadContract$Leg")) ({ frames := 0, cells := 0, slots := 0, locals := 0 } : Room) #[(.ref a1)] h0 (fun v h L => v = some (.ref g) ∧ Fr n0 L ∧ Keep h0 h []) := by
  refine Con.of (plainFor_of_name pn_6) ?_
  intro p e s m below meth c s₁ hx hby hml hZ hown hnm hret hlk X0 e0
  have N0 := Fr.nil n0
  refine go_cast (g' := mkF m 0 #[.val (.ref a1)] []) ?_ (by first | (simp [entryFrame, mkF, argsToLocals, Value.category]; done) | rfl)
  refine go_aload_n (q := 1) X0 hx (hb hby d12_0) (v := (.ref a1)) rfl rfl rfl ?_
  refine go_getF (q := 4) (host := "") X0 hx hZ hown (Or.inl (w14 hw)) Via.refl e0 (P_0.ext O0.2) (hb hby d12_1) rfl ?_
  intro T1 X1 e1
  refine go_retA X1 hx hret hlk e1 (hb hby d12_4) rfl rfl rfl (by decide) (by decide) ?_
  exact ⟨rfl, N0, (Keep.refl h0 [])⟩
set_option maxRecDepth 65536 in
set_option maxHeartbeats 40000000 in
theorem b13 (l : Launch) (Z : State) (a0 : Array Value) (hw : ∀ d ∈ tables_1, d.before a0 Z = true) (a1 : Addr) (f : Addr) (h0 : Heap) (n0 : Nat) (O0 : Old Z n0 h0) (P_0 : Fld Z Z.heap a1 "com/example/harborspread/harborspread/SpreadContract$Leg" "product" "Lcom/example/harborspread/harborspread/Product;" (.ref f)) :
    Con l Z (⟨"com/example/harborspread/harborspread/SpreadContract$Leg", "product", "()Lcom/example/harborspread/harborspread/Product;"⟩ : MethodName) prog_54_method_4_code 1 (some (.object "com/example/harborspread/harborspread/Product")) ({ frames := 0, cells := 0, slots := 0, locals := 0 } : Room) #[(.ref a1)] h0 (fun v h L => v = some (.ref f) ∧ Fr n0 L ∧ Keep h0 h []) := by
  refine Con.of (plainFor_of_name pn_7) ?_
  intro p e s m below meth c s₁ hx hby hml hZ hown hnm hret hlk X0 e0
  have N0 := Fr.nil n0
  refine go_cast (g' := mkF m 0 #[.val (.ref a1)] []) ?_ (by first | (simp [entryFrame, mkF, argsToLocals, Value.category]; done) | rfl)
  refine go_aload_n (q := 1) X0 hx (hb hby d13_0) (v := (.ref a1)) rfl rfl rfl ?_
  refine go_getF (q := 4) (host := "") X0 hx hZ hown (Or.inl (w93 hw)) Via.refl e0 (P_0.ext O0.2) (hb hby d13_1) rfl ?_
  intro T1 X1 e1
  refine go_retA X1 hx hret hlk e1 (hb hby d13_4) rfl rfl rfl (by decide) (by decide) ?_
  exact ⟨rfl, N0, (Keep.refl h0 [])⟩
set_option maxRecDepth 65536 in
set_option maxHeartbeats 40000000 in
theorem b0 (l : Launch) (Z : State) (a0 : Array Value) (hw : ∀ d ∈ tables_1, d.before a0 Z = true) (p0 : Int32) (em : Addr) (pB : Addr) (pH : Addr) (pG : Addr) (c0s : Addr) (f0s : Addr) (g0s : Addr) (c1s : Addr) (f1s : Addr) (g1s : Addr) (c2s : Addr) (f2s : Addr) (g2s : Addr) (h0 : Heap) (n0 : Nat) (O0 : Old Z n0 h0) (S_0 : Sta Z Z.heap "java/util/ImmutableCollections" "EMPTY" "Ljava/lang/Object;" (.ref em)) (P_1 : Exa Z Z.heap em "java/lang/Object") (S_2 : Sta Z Z.heap "com/example/harborspread/harborspread/Product" "B" "Lcom/example/harborspread/harborspread/Product;" (.ref pB)) (S_3 : Sta Z Z.heap "com/example/harborspread/harborspread/Product" "HO" "Lcom/example/harborspread/harborspread/Product;" (.ref pH)) (S_4 : Sta Z Z.heap "com/example/harborspread/harborspread/Product" "G" "Lcom/example/harborspread/harborspread/Product;" (.ref pG)) (S_5 : Sta Z Z.heap "com/example/harborspread/harborspread/SpreadContract" "ULSD_BRENT_CRACK" "Lcom/example/harborspread/harborspread/SpreadContract;" (.ref c0s)) (P_6 : Exa Z Z.heap c0s "com/example/harborspread/harborspread/SpreadContract") (P_7 : Fld Z Z.heap c0s "com/example/harborspread/harborspread/SpreadContract" "first" "Lcom/example/harborspread/harborspread/SpreadContract$Leg;" (.ref f0s)) (P_8 : Fld Z Z.heap c0s "com/example/harborspread/harborspread/SpreadContract" "second" "Lcom/example/harborspread/harborspread/SpreadContract$Leg;" (.ref g0s)) (P_9 : Exa Z Z.heap f0s "com/example/harborspread/harborspread/SpreadContract$Leg") (P_10 : Exa Z Z.heap g0s "com/example/harborspread/harborspread/SpreadContract$Leg") (P_11 : Fld Z Z.heap f0s "com/example/harborspread/harborspread/SpreadContract$Leg" "product" "Lcom/example/harborspread/harborspread/Product;" (.ref pH)) (P_12 : Fld Z Z.heap g0s "com/example/harborspread/harborspread/SpreadContract$Leg" "product" "Lcom/example/harborspread/harborspread/Product;" (.ref pB)) (S_13 : Sta Z Z.heap "com/example/harborspread/harborspread/SpreadContract" "ULSD_GASOIL_BARRELS" "Lcom/example/harborspread/harborspread/SpreadContract;" (.ref c1s)) (P_14 : Exa Z Z.heap c1s "com/example/harborspread/harborspread/SpreadContract") (P_15 : Fld Z Z.heap c1s "com/example/harborspread/harborspread/SpreadContract" "first" "Lcom/example/harborspread/harborspread/SpreadContract$Leg;" (.ref f1s)) (P_16 : Fld Z Z.heap c1s "com/example/harborspread/harborspread/SpreadContract" "second" "Lcom/example/harborspread/harborspread/SpreadContract$Leg;" (.ref g1s)) (P_17 : Exa Z Z.heap f1s "com/example/harborspread/harborspread/SpreadContract$Leg") (P_18 : Exa Z Z.heap g1s "com/example/harborspread/harborspread/SpreadContract$Leg") (P_19 : Fld Z Z.heap f1s "com/example/harborspread/harborspread/SpreadContract$Leg" "product" "Lcom/example/harborspread/harborspread/Product;" (.ref pH)) (P_20 : Fld Z Z.heap g1s "com/example/harborspread/harborspread/SpreadContract$Leg" "product" "Lcom/example/harborspread/harborspread/Product;" (.ref pG)) (S_21 : Sta Z Z.heap "com/example/harborspread/harborspread/SpreadContract" "ULSD_GASOIL_METRIC_TONS" "Lcom/example/harborspread/harborspread/SpreadContract;" (.ref c2s)) (P_22 : Exa Z Z.heap c2s "com/example/harborspread/harborspread/SpreadContract") (P_23 : Fld Z Z.heap c2s "com/example/harborspread/harborspread/SpreadContract" "first" "Lcom/example/harborspread/harborspread/SpreadContract$Leg;" (.ref f2s)) (P_24 : Fld Z Z.heap c2s "com/example/harborspread/harborspread/SpreadContract" "second" "Lcom/example/harborspread/harborspread/SpreadContract$Leg;" (.ref g2s)) (P_25 : Exa Z Z.heap f2s "com/example/harborspread/harborspread/SpreadContract$Leg") (P_26 : Exa Z Z.heap g2s "com/example/harborspread/harborspread/SpreadContract$Leg") (P_27 : Fld Z Z.heap f2s "com/example/harborspread/harborspread/SpreadContract$Leg" "product" "Lcom/example/harborspread/harborspread/Product;" (.ref pH)) (P_28 : Fld Z Z.heap g2s "com/example/harborspread/harborspread/SpreadContract$Leg" "product" "Lcom/example/harborspread/harborspread/Product;" (.ref pG)) :
    Con l Z x code maxLocals ret room_1 #[(.int p0)] h0 (fun v h L => v = some (.int (1 : Int32)) ∧ Fr n0 L ∧ Keep h0 h []) := by
  refine Con.of (plainFor_of_name pn_8) ?_
  intro p e s m below meth c s₁ hx hby hml hZ hown hnm hret hlk X0 e0
  have N0 := Fr.nil n0
  refine go_cast (g' := mkF m 0 #[.val (.int p0), .unset, .unset, .unset, .unset, .unset, .unset] []) ?_ (by first | (simp [entryFrame, mkF, argsToLocals, Value.category, maxLocals]; done) | rfl)
  refine go_iload_n (q := 1) X0 hx (hb hby at_0) (v := p0) rfl rfl ?_
  refine go_ldcI (q := 3) X0 hx hZ hown (w0 hw) (hb hby at_1) rfl ?_
  refine go_iand (q := 4) X0 hx (hb hby at_3) (v := (p0 &&& (2147483647 : Int32))) rfl rfl ?_
  refine go_iconst (q := 5) X0 hx (hb hby at_4) (v := (3 : Int32)) (by decide) rfl ?_
  refine go_irem (q := 6) X0 hx (hb hby at_5) (by decide) rfl ?_
  refine go_istore_n (q := 7) X0 hx (hb hby at_6) (l' := #[.val (.int p0), .val (.int ((p0 &&& (2147483647 : Int32)) % (3 : Int32))), .unset, .unset, .unset, .unset, .unset]) rfl rfl ?_
  refine go_iload_n (q := 8) X0 hx (hb hby at_7) (v := ((p0 &&& (2147483647 : Int32)) % (3 : Int32))) rfl rfl ?_
  by_cases c1 : ((p0 &&& (2147483647 : Int32)) % (3 : Int32)) = 0
  · refine go_ifN (q := 11) X0 hx (hb hby at_8) (XT.i0_ne_f c1) rfl ?_
    refine go_getS (q := 14) (host := "") X0 hx hZ hown (Or.inl (w1 hw)) Via.refl e0 (Sta.ext O0.2 S_5) (hb hby at_11) rfl ?_
    intro T2 X2 e2
    refine go_astore_n (q := 15) X2 hx (hb hby at_14) rfl (l' := #[.val (.int p0), .val (.int ((p0 &&& (2147483647 : Int32)) % (3 : Int32))), .val (.ref c0s), .unset, .unset, .unset, .unset]) rfl rfl ?_
    refine go_getS (q := 18) (host := "") X2 hx hZ hown (Or.inl (w4 hw)) Via.refl e2 (Sta.ext O0.2 S_2) (hb hby at_15) rfl ?_
    intro T3 X3 e3
    refine go_astore_n (q := 19) X3 hx (hb hby at_18) rfl (l' := #[.val (.int p0), .val (.int ((p0 &&& (2147483647 : Int32)) % (3 : Int32))), .val (.ref c0s), .val (.ref pB), .unset, .unset, .unset]) rfl rfl ?_
    refine go_goto (q := 46) X3 hx (hb hby at_19) (by decide) (by decide) ?_
    refine go_aload_n (q := 47) X3 hx (hb hby at_46) (v := (.ref c0s)) rfl rfl rfl ?_
    refine go_virtual (q := 50) X3 hx hZ hown (y := (⟨"com/example/harborspread/harborspread/SpreadContract", "legs", "()Ljava/util/List;"⟩ : MethodName)) (z := (⟨"com/example/harborspread/harborspread/SpreadContract", "legs", "()Ljava/util/List;"⟩ : MethodName)) (a := c0s) (w7 hw) (w8 hw) (notFace_of_selects (args := #[]) (mvT hZ (w10 hw))) (w10 hw) (w9 hw) (w2 hw) (w11 hw) (by decide) e3 (P_6.ext O0.2) (b1 l Z a0 hw c0s f0s g0s h0 n0 O0 P_7 P_8) (argsL := []) (rest := []) rfl (lenOf pd_4 rfl) rfl (by rw [hml]; rfl) (W := 0) (Nat.le_of_eq rfl) (hb hby at_47) (by decide) (by decide) (by decide) (by decide) rfl ?_
    rintro T4 h4 _ L4 X4 e4 ⟨r_4, rfl, M4, K4, p4_0, p4_1, p4_2, p4_3⟩
    have N4 := Fr.app N0 M4
    have fr_r_4 : n0 ≤ r_4 := Nat.le_trans (own_le O0) p4_0
    have sn_r_4 : h0.size ≤ r_4 := Nat.le_trans (Nat.le_refl _) p4_0
    refine go_astore (q := 52) X4 hx (hb hby at_50) rfl (l' := #[.val (.int p0), .val (.int ((p0 &&& (2147483647 : Int32)) % (3 : Int32))), .val (.ref c0s), .val (.ref pB), .val (.ref r_4), .unset, .unset]) rfl rfl ?_
    refine go_aload (q := 54) X4 hx (hb hby at_52) (v := (.ref r_4)) rfl rfl rfl ?_
    have O5 : Old Z n0 h4 := (O0.keep K4 all0)
    refine go_iface (q := 59) X4 hx hZ hown (y := (⟨"java/util/List", "size", "()I"⟩ : MethodName)) (z := (⟨"java/util/ImmutableCollections$List12", "size", "()I"⟩ : MethodName)) (a := r_4) (w56 hw) (w57 hw) (mvT hZ (w58 hw)) (w59 hw) (w60 hw) (w61 hw) (w62 hw) (w63 hw) (w22 hw) (w64 hw) (by decide) e4 p4_1 (b9 l Z a0 hw r_4 g0s em h4 n0 O5 p4_3 S_0 (ne_exa P_10 P_1 (by decide))) (argsL := []) (rest := []) rfl (lenOf pd_5 rfl) rfl (by rw [hml]; rfl) (W := 0) (Nat.le_of_eq rfl) (hb hby at_54) (by decide) (by decide) (by decide) (by decide) rfl ?_
    rintro T6 h6 _ L6 X6 e6 ⟨rfl, M6, K6⟩
    have N6 := Fr.app N4 M6
    refine go_iconst (q := 60) X6 hx (hb hby at_59) (v := (2 : Int32)) (by decide) rfl ?_
    refine go_icmpY (q := 65) X6 hx (hb hby at_60) (XT.ii_eq_t (by decide)) (by decide) (by decide) ?_
    refine go_aload (q := 67) X6 hx (hb hby at_65) (v := (.ref r_4)) rfl rfl rfl ?_
    refine go_iconst (q := 68) X6 hx (hb hby at_67) (v := (0 : Int32)) (by decide) rfl ?_
    have f7 : Exa Z h6 r_4 "java/util/ImmutableCollections$List12" := (p4_1.keep K6)
    have f8 : Fld Z h6 r_4 "java/util/ImmutableCollections$List12" "e0" "Ljava/lang/Object;" (.ref f0s) := (p4_2.keep K6 nin0)
    have O9 : Old Z n0 h6 := (O5.keep K6 all0)
    refine go_iface (q := 73) X6 hx hZ hown (y := (⟨"java/util/List", "get", "(I)Ljava/lang/Object;"⟩ : MethodName)) (z := (⟨"java/util/ImmutableCollections$List12", "get", "(I)Ljava/lang/Object;"⟩ : MethodName)) (a := r_4) (w67 hw) (w68 hw) (mvT hZ (w69 hw)) (w70 hw) (w71 hw) (w72 hw) (w73 hw) (w63 hw) (w22 hw) (w74 hw) (by decide) e6 f7 (b10 l Z a0 hw r_4 f0s h6 n0 O9 f8) (argsL := [(.int (0 : Int32))]) (rest := []) rfl (lenOf pd_6 rfl) rfl (by rw [hml]; rfl) (W := 0) (Nat.le_of_eq rfl) (hb hby at_68) (by decide) (by decide) (by decide) (by decide) rfl ?_
    rintro T10 h10 _ L10 X10 e10 ⟨rfl, M10, K10⟩
    have N10 := Fr.app N6 M10
    have O11 : Old Z n0 h10 := (O9.keep K10 all0)
    refine go_cast1 (q := 76) X10 hx hZ hown (w75 hw) e10 (Ins.self (P_9.ext O11.2)) (hb hby at_73) rfl ?_
    intro T12 X12 e12
    refine go_astore (q := 78) X12 hx (hb hby at_76) rfl (l' := #[.val (.int p0), .val (.int ((p0 &&& (2147483647 : Int32)) % (3 : Int32))), .val (.ref c0s), .val (.ref pB), .val (.ref r_4), .val (.ref f0s), .unset]) rfl rfl ?_
    refine go_aload (q := 80) X12 hx (hb hby at_78) (v := (.ref r_4)) rfl rfl rfl ?_
    refine go_iconst (q := 81) X12 hx (hb hby at_80) (v := (1 : Int32)) (by decide) rfl ?_
    have f13 : Exa Z h10 r_4 "java/util/ImmutableCollections$List12" := (f7.keep K10)
    have f14 : Fld Z h10 r_4 "java/util/ImmutableCollections$List12" "e1" "Ljava/lang/Object;" (.ref g0s) := ((p4_3.keep K6 nin0).keep K10 nin0)
    refine go_iface (q := 86) X12 hx hZ hown (y := (⟨"java/util/List", "get", "(I)Ljava/lang/Object;"⟩ : MethodName)) (z := (⟨"java/util/ImmutableCollections$List12", "get", "(I)Ljava/lang/Object;"⟩ : MethodName)) (a := r_4) (w67 hw) (w68 hw) (mvT hZ (w69 hw)) (w70 hw) (w71 hw) (w72 hw) (w73 hw) (w63 hw) (w22 hw) (w74 hw) (by decide) e12 f13 (b10_1 l Z a0 hw r_4 g0s em h10 n0 O11 f14 S_0 (ne_exa P_10 P_1 (by decide))) (argsL := [(.int (1 : Int32))]) (rest := []) rfl (lenOf pd_6 rfl) rfl (by rw [hml]; rfl) (W := 0) (Nat.le_of_eq rfl) (hb hby at_81) (by decide) (by decide) (by decide) (by decide) rfl ?_
    rintro T15 h15 _ L15 X15 e15 ⟨rfl, M15, K15⟩
    have N15 := Fr.app N10 M15
    have O16 : Old Z n0 h15 := (O11.keep K15 all0)
    refine go_cast1 (q := 89) X15 hx hZ hown (w75 hw) e15 (Ins.self (P_10.ext O16.2)) (hb hby at_86) rfl ?_
    intro T17 X17 e17
    refine go_astore (q := 91) X17 hx (hb hby at_89) rfl (l' := #[.val (.int p0), .val (.int ((p0 &&& (2147483647 : Int32)) % (3 : Int32))), .val (.ref c0s), .val (.ref pB), .val (.ref r_4), .val (.ref f0s), .val (.ref g0s)]) rfl rfl ?_
    refine go_aload (q := 93) X17 hx (hb hby at_91) (v := (.ref f0s)) rfl rfl rfl ?_
    refine go_aload_n (q := 94) X17 hx (hb hby at_93) (v := (.ref c0s)) rfl rfl rfl ?_
    refine go_virtual (q := 97) X17 hx hZ hown (y := (⟨"com/example/harborspread/harborspread/SpreadContract", "first", "()Lcom/example/harborspread/harborspread/SpreadContract$Leg;"⟩ : MethodName)) (z := (⟨"com/example/harborspread/harborspread/SpreadContract", "first", "()Lcom/example/harborspread/harborspread/SpreadContract$Leg;"⟩ : MethodName)) (a := c0s) (w77 hw) (w78 hw) (notFace_of_selects (args := #[]) (mvT hZ (w80 hw))) (w80 hw) (w79 hw) (w2 hw) (w81 hw) (by decide) e17 (P_6.ext O16.2) (b11 l Z a0 hw c0s f0s h15 n0 O16 P_7) (argsL := []) (rest := [(.ref f0s)]) rfl (lenOf pd_7 rfl) rfl (by rw [hml]; rfl) (W := 1) (Nat.le_of_eq rfl) (hb hby at_94) (by decide) (by decide) (by decide) (by decide) rfl ?_
    rintro T18 h18 _ L18 X18 e18 ⟨rfl, M18, K18⟩
    have N18 := Fr.app N15 M18
    refine go_acmp (q := 100) (same := true) X18 hx (hb hby at_97) rfl rfl (decide_eq_true rfl) (by decide) (by decide) ?_
    refine go_aload (q := 102) X18 hx (hb hby at_100) (v := (.ref g0s)) rfl rfl rfl ?_
    refine go_aload_n (q := 103) X18 hx (hb hby at_102) (v := (.ref c0s)) rfl rfl rfl ?_
    have O19 : Old Z n0 h18 := (O16.keep K18 all0)
    refine go_virtual (q := 106) X18 hx hZ hown (y := (⟨"com/example/harborspread/harborspread/SpreadContract", "second", "()Lcom/example/harborspread/harborspread/SpreadContract$Leg;"⟩ : MethodName)) (z := (⟨"com/example/harborspread/harborspread/SpreadContract", "second", "()Lcom/example/harborspread/harborspread/SpreadContract$Leg;"⟩ : MethodName)) (a := c0s) (w82 hw) (w83 hw) (notFace_of_selects (args := #[]) (mvT hZ (w85 hw))) (w85 hw) (w84 hw) (w2 hw) (w86 hw) (by decide) e18 (P_6.ext O19.2) (b12 l Z a0 hw c0s g0s h18 n0 O19 P_8) (argsL := []) (rest := [(.ref g0s)]) rfl (lenOf pd_7 rfl) rfl (by rw [hml]; rfl) (W := 1) (Nat.le_of_eq rfl) (hb hby at_103) (by decide) (by decide) (by decide) (by decide) rfl ?_
    rintro T20 h20 _ L20 X20 e20 ⟨rfl, M20, K20⟩
    have N20 := Fr.app N18 M20
    refine go_acmp (q := 109) (same := true) X20 hx (hb hby at_106) rfl rfl (decide_eq_true rfl) (by decide) (by decide) ?_
    refine go_aload (q := 111) X20 hx (hb hby at_109) (v := (.ref f0s)) rfl rfl rfl ?_
    have O21 : Old Z n0 h20 := (O19.keep K20 all0)
    refine go_virtual (q := 114) X20 hx hZ hown (y := (⟨"com/example/harborspread/harborspread/SpreadContract$Leg", "product", "()Lcom/example/harborspread/harborspread/Product;"⟩ : MethodName)) (z := (⟨"com/example/harborspread/harborspread/SpreadContract$Leg", "product", "()Lcom/example/harborspread/harborspread/Product;"⟩ : MethodName)) (a := f0s) (w87 hw) (w88 hw) (notFace_of_selects (args := #[]) (mvT hZ (w90 hw))) (w90 hw) (w89 hw) (w91 hw) (w92 hw) (by decide) e20 (P_9.ext O21.2) (b13 l Z a0 hw f0s pH h20 n0 O21 P_11) (argsL := []) (rest := []) rfl (lenOf pd_8 rfl) rfl (by rw [hml]; rfl) (W := 0) (Nat.le_of_eq rfl) (hb hby at_111) (by decide) (by decide) (by decide) (by decide) rfl ?_
    rintro T22 h22 _ L22 X22 e22 ⟨rfl, M22, K22⟩
    have N22 := Fr.app N20 M22
    have O24 : Old Z n0 h22 := (O21.keep K22 all0)
    refine go_getS (q := 117) (host := "") X22 hx hZ hown (Or.inl (w96 hw)) Via.refl e22 (Sta.ext O24.2 S_3) (hb hby at_114) rfl ?_
    intro T23 X23 e23
    refine go_acmp (q := 120) (same := true) X23 hx (hb hby at_117) rfl rfl (decide_eq_true rfl) (by decide) (by decide) ?_
    refine go_aload (q := 122) X23 hx (hb hby at_120) (v := (.ref g0s)) rfl rfl rfl ?_
    refine go_virtual (q := 125) X23 hx hZ hown (y := (⟨"com/example/harborspread/harborspread/SpreadContract$Leg", "product", "()Lcom/example/harborspread/harborspread/Product;"⟩ : MethodName)) (z := (⟨"com/example/harborspread/harborspread/SpreadContract$Leg", "product", "()Lcom/example/harborspread/harborspread/Product;"⟩ : MethodName)) (a := g0s) (w87 hw) (w88 hw) (notFace_of_selects (args := #[]) (mvT hZ (w90 hw))) (w90 hw) (w89 hw) (w91 hw) (w92 hw) (by decide) e23 (P_10.ext O24.2) (b13 l Z a0 hw g0s pB h22 n0 O24 P_12) (argsL := []) (rest := []) rfl (lenOf pd_8 rfl) rfl (by rw [hml]; rfl) (W := 0) (Nat.le_of_eq rfl) (hb hby at_122) (by decide) (by decide) (by decide) (by decide) rfl ?_
    rintro T25 h25 _ L25 X25 e25 ⟨rfl, M25, K25⟩
    have N25 := Fr.app N22 M25
    refine go_aload_n (q := 126) X25 hx (hb hby at_125) (v := (.ref pB)) rfl rfl rfl ?_
    refine go_acmp (q := 129) (same := true) X25 hx (hb hby at_126) rfl rfl (decide_eq_true rfl) (by decide) (by decide) ?_
    refine go_iconst (q := 130) X25 hx (hb hby at_129) (v := (1 : Int32)) (by decide) rfl ?_
    refine go_goto (q := 134) X25 hx (hb hby at_130) (by decide) (by decide) ?_
    refine go_retI X25 hx hret hlk e25 (hb hby at_134) (by simp) (by decide) (by decide) (by decide) ?_
    exact ⟨(by first | rfl | simp [c1] | simp_all), N25, (((((((((Keep.refl h0 []).trans K4 all0).trans K6 all0).trans K10 all0).trans K15 all0).trans K18 all0).trans K20 all0).trans K22 all0).trans K25 all0)⟩
  · refine go_ifY (q := 22) X0 hx (hb hby at_8) (XT.i0_ne_t c1) (by decide) (by decide) ?_
    refine go_iload_n (q := 23) X0 hx (hb hby at_22) (v := ((p0 &&& (2147483647 : Int32)) % (3 : Int32))) rfl rfl ?_
    refine go_iconst (q := 24) X0 hx (hb hby at_23) (v := (1 : Int32)) (by decide) rfl ?_
    by_cases c26 : ((p0 &&& (2147483647 : Int32)) % (3 : Int32)) = (1 : Int32)
    · refine go_icmpN (q := 27) X0 hx (hb hby at_24) (XT.ii_ne_f c26) rfl ?_
      refine go_getS (q := 30) (host := "") X0 hx hZ hown (Or.inl (w101 hw)) Via.refl e0 (Sta.ext O0.2 S_13) (hb hby at_27) rfl ?_
      intro T27 X27 e27
      refine go_astore_n (q := 31) X27 hx (hb hby at_30) rfl (l' := #[.val (.int p0), .val (.int ((p0 &&& (2147483647 : Int32)) % (3 : Int32))), .val (.ref c1s), .unset, .unset, .unset, .unset]) rfl rfl ?_
      refine go_getS (q := 34) (host := "") X27 hx hZ hown (Or.inl (w99 hw)) Via.refl e27 (Sta.ext O0.2 S_4) (hb hby at_31) rfl ?_
      intro T28 X28 e28
      refine go_astore_n (q := 35) X28 hx (hb hby at_34) rfl (l' := #[.val (.int p0), .val (.int ((p0 &&& (2147483647 : Int32)) % (3 : Int32))), .val (.ref c1s), .val (.ref pG), .unset, .unset, .unset]) rfl rfl ?_
      refine go_goto (q := 46) X28 hx (hb hby at_35) (by decide) (by decide) ?_
      refine go_aload_n (q := 47) X28 hx (hb hby at_46) (v := (.ref c1s)) rfl rfl rfl ?_
      refine go_virtual (q := 50) X28 hx hZ hown (y := (⟨"com/example/harborspread/harborspread/SpreadContract", "legs", "()Ljava/util/List;"⟩ : MethodName)) (z := (⟨"com/example/harborspread/harborspread/SpreadContract", "legs", "()Ljava/util/List;"⟩ : MethodName)) (a := c1s) (w7 hw) (w8 hw) (notFace_of_selects (args := #[]) (mvT hZ (w10 hw))) (w10 hw) (w9 hw) (w2 hw) (w11 hw) (by decide) e28 (P_14.ext O0.2) (b1 l Z a0 hw c1s f1s g1s h0 n0 O0 P_15 P_16) (argsL := []) (rest := []) rfl (lenOf pd_4 rfl) rfl (by rw [hml]; rfl) (W := 0) (Nat.le_of_eq rfl) (hb hby at_47) (by decide) (by decide) (by decide) (by decide) rfl ?_
      rintro T29 h29 _ L29 X29 e29 ⟨r_29, rfl, M29, K29, p29_0, p29_1, p29_2, p29_3⟩
      have N29 := Fr.app N0 M29
      have fr_r_29 : n0 ≤ r_29 := Nat.le_trans (own_le O0) p29_0
      have sn_r_29 : h0.size ≤ r_29 := Nat.le_trans (Nat.le_refl _) p29_0
      refine go_astore (q := 52) X29 hx (hb hby at_50) rfl (l' := #[.val (.int p0), .val (.int ((p0 &&& (2147483647 : Int32)) % (3 : Int32))), .val (.ref c1s), .val (.ref pG), .val (.ref r_29), .unset, .unset]) rfl rfl ?_
      refine go_aload (q := 54) X29 hx (hb hby at_52) (v := (.ref r_29)) rfl rfl rfl ?_
      have O30 : Old Z n0 h29 := (O0.keep K29 all0)
      refine go_iface (q := 59) X29 hx hZ hown (y := (⟨"java/util/List", "size", "()I"⟩ : MethodName)) (z := (⟨"java/util/ImmutableCollections$List12", "size", "()I"⟩ : MethodName)) (a := r_29) (w56 hw) (w57 hw) (mvT hZ (w58 hw)) (w59 hw) (w60 hw) (w61 hw) (w62 hw) (w63 hw) (w22 hw) (w64 hw) (by decide) e29 p29_1 (b9 l Z a0 hw r_29 g1s em h29 n0 O30 p29_3 S_0 (ne_exa P_18 P_1 (by decide))) (argsL := []) (rest := []) rfl (lenOf pd_5 rfl) rfl (by rw [hml]; rfl) (W := 0) (Nat.le_of_eq rfl) (hb hby at_54) (by decide) (by decide) (by decide) (by decide) rfl ?_
      rintro T31 h31 _ L31 X31 e31 ⟨rfl, M31, K31⟩
      have N31 := Fr.app N29 M31
      refine go_iconst (q := 60) X31 hx (hb hby at_59) (v := (2 : Int32)) (by decide) rfl ?_
      refine go_icmpY (q := 65) X31 hx (hb hby at_60) (XT.ii_eq_t (by decide)) (by decide) (by decide) ?_
      refine go_aload (q := 67) X31 hx (hb hby at_65) (v := (.ref r_29)) rfl rfl rfl ?_
      refine go_iconst (q := 68) X31 hx (hb hby at_67) (v := (0 : Int32)) (by decide) rfl ?_
      have f32 : Exa Z h31 r_29 "java/util/ImmutableCollections$List12" := (p29_1.keep K31)
      have f33 : Fld Z h31 r_29 "java/util/ImmutableCollections$List12" "e0" "Ljava/lang/Object;" (.ref f1s) := (p29_2.keep K31 nin0)
      have O34 : Old Z n0 h31 := (O30.keep K31 all0)
      refine go_iface (q := 73) X31 hx hZ hown (y := (⟨"java/util/List", "get", "(I)Ljava/lang/Object;"⟩ : MethodName)) (z := (⟨"java/util/ImmutableCollections$List12", "get", "(I)Ljava/lang/Object;"⟩ : MethodName)) (a := r_29) (w67 hw) (w68 hw) (mvT hZ (w69 hw)) (w70 hw) (w71 hw) (w72 hw) (w73 hw) (w63 hw) (w22 hw) (w74 hw) (by decide) e31 f32 (b10 l Z a0 hw r_29 f1s h31 n0 O34 f33) (argsL := [(.int (0 : Int32))]) (rest := []) rfl (lenOf pd_6 rfl) rfl (by rw [hml]; rfl) (W := 0) (Nat.le_of_eq rfl) (hb hby at_68) (by decide) (by decide) (by decide) (by decide) rfl ?_
      rintro T35 h35 _ L35 X35 e35 ⟨rfl, M35, K35⟩
      have N35 := Fr.app N31 M35
      have O36 : Old Z n0 h35 := (O34.keep K35 all0)
      refine go_cast1 (q := 76) X35 hx hZ hown (w75 hw) e35 (Ins.self (P_17.ext O36.2)) (hb hby at_73) rfl ?_
      intro T37 X37 e37
      refine go_astore (q := 78) X37 hx (hb hby at_76) rfl (l' := #[.val (.int p0), .val (.int ((p0 &&& (2147483647 : Int32)) % (3 : Int32))), .val (.ref c1s), .val (.ref pG), .val (.ref r_29), .val (.ref f1s), .unset]) rfl rfl ?_
      refine go_aload (q := 80) X37 hx (hb hby at_78) (v := (.ref r_29)) rfl rfl rfl ?_
      refine go_iconst (q := 81) X37 hx (hb hby at_80) (v := (1 : Int32)) (by decide) rfl ?_
      have f38 : Exa Z h35 r_29 "java/util/ImmutableCollections$List12" := (f32.keep K35)
      have f39 : Fld Z h35 r_29 "java/util/ImmutableCollections$List12" "e1" "Ljava/lang/Object;" (.ref g1s) := ((p29_3.keep K31 nin0).keep K35 nin0)
      refine go_iface (q := 86) X37 hx hZ hown (y := (⟨"java/util/List", "get", "(I)Ljava/lang/Object;"⟩ : MethodName)) (z := (⟨"java/util/ImmutableCollections$List12", "get", "(I)Ljava/lang/Object;"⟩ : MethodName)) (a := r_29) (w67 hw) (w68 hw) (mvT hZ (w69 hw)) (w70 hw) (w71 hw) (w72 hw) (w73 hw) (w63 hw) (w22 hw) (w74 hw) (by decide) e37 f38 (b10_1 l Z a0 hw r_29 g1s em h35 n0 O36 f39 S_0 (ne_exa P_18 P_1 (by decide))) (argsL := [(.int (1 : Int32))]) (rest := []) rfl (lenOf pd_6 rfl) rfl (by rw [hml]; rfl) (W := 0) (Nat.le_of_eq rfl) (hb hby at_81) (by decide) (by decide) (by decide) (by decide) rfl ?_
      rintro T40 h40 _ L40 X40 e40 ⟨rfl, M40, K40⟩
      have N40 := Fr.app N35 M40
      have O41 : Old Z n0 h40 := (O36.keep K40 all0)
      refine go_cast1 (q := 89) X40 hx hZ hown (w75 hw) e40 (Ins.self (P_18.ext O41.2)) (hb hby at_86) rfl ?_
      intro T42 X42 e42
      refine go_astore (q := 91) X42 hx (hb hby at_89) rfl (l' := #[.val (.int p0), .val (.int ((p0 &&& (2147483647 : Int32)) % (3 : Int32))), .val (.ref c1s), .val (.ref pG), .val (.ref r_29), .val (.ref f1s), .val (.ref g1s)]) rfl rfl ?_
      refine go_aload (q := 93) X42 hx (hb hby at_91) (v := (.ref f1s)) rfl rfl rfl ?_
      refine go_aload_n (q := 94) X42 hx (hb hby at_93) (v := (.ref c1s)) rfl rfl rfl ?_
      refine go_virtual (q := 97) X42 hx hZ hown (y := (⟨"com/example/harborspread/harborspread/SpreadContract", "first", "()Lcom/example/harborspread/harborspread/SpreadContract$Leg;"⟩ : MethodName)) (z := (⟨"com/example/harborspread/harborspread/SpreadContract", "first", "()Lcom/example/harborspread/harborspread/SpreadContract$Leg;"⟩ : MethodName)) (a := c1s) (w77 hw) (w78 hw) (notFace_of_selects (args := #[]) (mvT hZ (w80 hw))) (w80 hw) (w79 hw) (w2 hw) (w81 hw) (by decide) e42 (P_14.ext O41.2) (b11 l Z a0 hw c1s f1s h40 n0 O41 P_15) (argsL := []) (rest := [(.ref f1s)]) rfl (lenOf pd_7 rfl) rfl (by rw [hml]; rfl) (W := 1) (Nat.le_of_eq rfl) (hb hby at_94) (by decide) (by decide) (by decide) (by decide) rfl ?_
      rintro T43 h43 _ L43 X43 e43 ⟨rfl, M43, K43⟩
      have N43 := Fr.app N40 M43
      refine go_acmp (q := 100) (same := true) X43 hx (hb hby at_97) rfl rfl (decide_eq_true rfl) (by decide) (by decide) ?_
      refine go_aload (q := 102) X43 hx (hb hby at_100) (v := (.ref g1s)) rfl rfl rfl ?_
      refine go_aload_n (q := 103) X43 hx (hb hby at_102) (v := (.ref c1s)) rfl rfl rfl ?_
      have O44 : Old Z n0 h43 := (O41.keep K43 all0)
      refine go_virtual (q := 106) X43 hx hZ hown (y := (⟨"com/example/harborspread/harborspread/SpreadContract", "second", "()Lcom/example/harborspread/harborspread/SpreadContract$Leg;"⟩ : MethodName)) (z := (⟨"com/example/harborspread/harborspread/SpreadContract", "second", "()Lcom/example/harborspread/harborspread/SpreadContract$Leg;"⟩ : MethodName)) (a := c1s) (w82 hw) (w83 hw) (notFace_of_selects (args := #[]) (mvT hZ (w85 hw))) (w85 hw) (w84 hw) (w2 hw) (w86 hw) (by decide) e43 (P_14.ext O44.2) (b12 l Z a0 hw c1s g1s h43 n0 O44 P_16) (argsL := []) (rest := [(.ref g1s)]) rfl (lenOf pd_7 rfl) rfl (by rw [hml]; rfl) (W := 1) (Nat.le_of_eq rfl) (hb hby at_103) (by decide) (by decide) (by decide) (by decide) rfl ?_
      rintro T45 h45 _ L45 X45 e45 ⟨rfl, M45, K45⟩
      have N45 := Fr.app N43 M45
      refine go_acmp (q := 109) (same := true) X45 hx (hb hby at_106) rfl rfl (decide_eq_true rfl) (by decide) (by decide) ?_
      refine go_aload (q := 111) X45 hx (hb hby at_109) (v := (.ref f1s)) rfl rfl rfl ?_
      have O46 : Old Z n0 h45 := (O44.keep K45 all0)
      refine go_virtual (q := 114) X45 hx hZ hown (y := (⟨"com/example/harborspread/harborspread/SpreadContract$Leg", "product", "()Lcom/example/harborspread/harborspread/Product;"⟩ : MethodName)) (z := (⟨"com/example/harborspread/harborspread/SpreadContract$Leg", "product", "()Lcom/example/harborspread/harborspread/Product;"⟩ : MethodName)) (a := f1s) (w87 hw) (w88 hw) (notFace_of_selects (args := #[]) (mvT hZ (w90 hw))) (w90 hw) (w89 hw) (w91 hw) (w92 hw) (by decide) e45 (P_17.ext O46.2) (b13 l Z a0 hw f1s pH h45 n0 O46 P_19) (argsL := []) (rest := []) rfl (lenOf pd_8 rfl) rfl (by rw [hml]; rfl) (W := 0) (Nat.le_of_eq rfl) (hb hby at_111) (by decide) (by decide) (by decide) (by decide) rfl ?_
      rintro T47 h47 _ L47 X47 e47 ⟨rfl, M47, K47⟩
      have N47 := Fr.app N45 M47
      have O49 : Old Z n0 h47 := (O46.keep K47 all0)
      refine go_getS (q := 117) (host := "") X47 hx hZ hown (Or.inl (w96 hw)) Via.refl e47 (Sta.ext O49.2 S_3) (hb hby at_114) rfl ?_
      intro T48 X48 e48
      refine go_acmp (q := 120) (same := true) X48 hx (hb hby at_117) rfl rfl (decide_eq_true rfl) (by decide) (by decide) ?_
      refine go_aload (q := 122) X48 hx (hb hby at_120) (v := (.ref g1s)) rfl rfl rfl ?_
      refine go_virtual (q := 125) X48 hx hZ hown (y := (⟨"com/example/harborspread/harborspread/SpreadContract$Leg", "product", "()Lcom/example/harborspread/harborspread/Product;"⟩ : MethodName)) (z := (⟨"com/example/harborspread/harborspread/SpreadContract$Leg", "product", "()Lcom/example/harborspread/harborspread/Product;"⟩ : MethodName)) (a := g1s) (w87 hw) (w88 hw) (notFace_of_selects (args := #[]) (mvT hZ (w90 hw))) (w90 hw) (w89 hw) (w91 hw) (w92 hw) (by decide) e48 (P_18.ext O49.2) (b13 l Z a0 hw g1s pG h47 n0 O49 P_20) (argsL := []) (rest := []) rfl (lenOf pd_8 rfl) rfl (by rw [hml]; rfl) (W := 0) (Nat.le_of_eq rfl) (hb hby at_122) (by decide) (by decide) (by decide) (by decide) rfl ?_
      rintro T50 h50 _ L50 X50 e50 ⟨rfl, M50, K50⟩
      have N50 := Fr.app N47 M50
      refine go_aload_n (q := 126) X50 hx (hb hby at_125) (v := (.ref pG)) rfl rfl rfl ?_
      refine go_acmp (q := 129) (same := true) X50 hx (hb hby at_126) rfl rfl (decide_eq_true rfl) (by decide) (by decide) ?_
      refine go_iconst (q := 130) X50 hx (hb hby at_129) (v := (1 : Int32)) (by decide) rfl ?_
      refine go_goto (q := 134) X50 hx (hb hby at_130) (by decide) (by decide) ?_
      refine go_retI X50 hx hret hlk e50 (hb hby at_134) (by simp) (by decide) (by decide) (by decide) ?_
      exact ⟨(by first | rfl | simp [c1, c26] | simp_all), N50, (((((((((Keep.refl h0 []).trans K29 all0).trans K31 all0).trans K35 all0).trans K40 all0).trans K43 all0).trans K45 all0).trans K47 all0).trans K50 all0)⟩
    · refine go_icmpY (q := 38) X0 hx (hb hby at_24) (XT.ii_ne_t c26) (by decide) (by decide) ?_
      refine go_getS (q := 41) (host := "") X0 hx hZ hown (Or.inl (w97 hw)) Via.refl e0 (Sta.ext O0.2 S_21) (hb hby at_38) rfl ?_
      intro T51 X51 e51
      refine go_astore_n (q := 42) X51 hx (hb hby at_41) rfl (l' := #[.val (.int p0), .val (.int ((p0 &&& (2147483647 : Int32)) % (3 : Int32))), .val (.ref c2s), .unset, .unset, .unset, .unset]) rfl rfl ?_
      refine go_getS (q := 45) (host := "") X51 hx hZ hown (Or.inl (w99 hw)) Via.refl e51 (Sta.ext O0.2 S_4) (hb hby at_42) rfl ?_
      intro T52 X52 e52
      refine go_astore_n (q := 46) X52 hx (hb hby at_45) rfl (l' := #[.val (.int p0), .val (.int ((p0 &&& (2147483647 : Int32)) % (3 : Int32))), .val (.ref c2s), .val (.ref pG), .unset, .unset, .unset]) rfl rfl ?_
      refine go_aload_n (q := 47) X52 hx (hb hby at_46) (v := (.ref c2s)) rfl rfl rfl ?_
      refine go_virtual (q := 50) X52 hx hZ hown (y := (⟨"com/example/harborspread/harborspread/SpreadContract", "legs", "()Ljava/util/List;"⟩ : MethodName)) (z := (⟨"com/example/harborspread/harborspread/SpreadContract", "legs", "()Ljava/util/List;"⟩ : MethodName)) (a := c2s) (w7 hw) (w8 hw) (notFace_of_selects (args := #[]) (mvT hZ (w10 hw))) (w10 hw) (w9 hw) (w2 hw) (w11 hw) (by decide) e52 (P_22.ext O0.2) (b1 l Z a0 hw c2s f2s g2s h0 n0 O0 P_23 P_24) (argsL := []) (rest := []) rfl (lenOf pd_4 rfl) rfl (by rw [hml]; rfl) (W := 0) (Nat.le_of_eq rfl) (hb hby at_47) (by decide) (by decide) (by decide) (by decide) rfl ?_
      rintro T53 h53 _ L53 X53 e53 ⟨r_53, rfl, M53, K53, p53_0, p53_1, p53_2, p53_3⟩
      have N53 := Fr.app N0 M53
      have fr_r_53 : n0 ≤ r_53 := Nat.le_trans (own_le O0) p53_0
      have sn_r_53 : h0.size ≤ r_53 := Nat.le_trans (Nat.le_refl _) p53_0
      refine go_astore (q := 52) X53 hx (hb hby at_50) rfl (l' := #[.val (.int p0), .val (.int ((p0 &&& (2147483647 : Int32)) % (3 : Int32))), .val (.ref c2s), .val (.ref pG), .val (.ref r_53), .unset, .unset]) rfl rfl ?_
      refine go_aload (q := 54) X53 hx (hb hby at_52) (v := (.ref r_53)) rfl rfl rfl ?_
      have O54 : Old Z n0 h53 := (O0.keep K53 all0)
      refine go_iface (q := 59) X53 hx hZ hown (y := (⟨"java/util/List", "size", "()I"⟩ : MethodName)) (z := (⟨"java/util/ImmutableCollections$List12", "size", "()I"⟩ : MethodName)) (a := r_53) (w56 hw) (w57 hw) (mvT hZ (w58 hw)) (w59 hw) (w60 hw) (w61 hw) (w62 hw) (w63 hw) (w22 hw) (w64 hw) (by decide) e53 p53_1 (b9 l Z a0 hw r_53 g2s em h53 n0 O54 p53_3 S_0 (ne_exa P_26 P_1 (by decide))) (argsL := []) (rest := []) rfl (lenOf pd_5 rfl) rfl (by rw [hml]; rfl) (W := 0) (Nat.le_of_eq rfl) (hb hby at_54) (by decide) (by decide) (by decide) (by decide) rfl ?_
      rintro T55 h55 _ L55 X55 e55 ⟨rfl, M55, K55⟩
      have N55 := Fr.app N53 M55
      refine go_iconst (q := 60) X55 hx (hb hby at_59) (v := (2 : Int32)) (by decide) rfl ?_
      refine go_icmpY (q := 65) X55 hx (hb hby at_60) (XT.ii_eq_t (by decide)) (by decide) (by decide) ?_
      refine go_aload (q := 67) X55 hx (hb hby at_65) (v := (.ref r_53)) rfl rfl rfl ?_
      refine go_iconst (q := 68) X55 hx (hb hby at_67) (v := (0 : Int32)) (by decide) rfl ?_
      have f56 : Exa Z h55 r_53 "java/util/ImmutableCollections$List12" := (p53_1.keep K55)
      have f57 : Fld Z h55 r_53 "java/util/ImmutableCollections$List12" "e0" "Ljava/lang/Object;" (.ref f2s) := (p53_2.keep K55 nin0)
      have O58 : Old Z n0 h55 := (O54.keep K55 all0)
      refine go_iface (q := 73) X55 hx hZ hown (y := (⟨"java/util/List", "get", "(I)Ljava/lang/Object;"⟩ : MethodName)) (z := (⟨"java/util/ImmutableCollections$List12", "get", "(I)Ljava/lang/Object;"⟩ : MethodName)) (a := r_53) (w67 hw) (w68 hw) (mvT hZ (w69 hw)) (w70 hw) (w71 hw) (w72 hw) (w73 hw) (w63 hw) (w22 hw) (w74 hw) (by decide) e55 f56 (b10 l Z a0 hw r_53 f2s h55 n0 O58 f57) (argsL := [(.int (0 : Int32))]) (rest := []) rfl (lenOf pd_6 rfl) rfl (by rw [hml]; rfl) (W := 0) (Nat.le_of_eq rfl) (hb hby at_68) (by decide) (by decide) (by decide) (by decide) rfl ?_
      rintro T59 h59 _ L59 X59 e59 ⟨rfl, M59, K59⟩
      have N59 := Fr.app N55 M59
      have O60 : Old Z n0 h59 := (O58.keep K59 all0)
      refine go_cast1 (q := 76) X59 hx hZ hown (w75 hw) e59 (Ins.self (P_25.ext O60.2)) (hb hby at_73) rfl ?_
      intro T61 X61 e61
      refine go_astore (q := 78) X61 hx (hb hby at_76) rfl (l' := #[.val (.int p0), .val (.int ((p0 &&& (2147483647 : Int32)) % (3 : Int32))), .val (.ref c2s), .val (.ref pG), .val (.ref r_53), .val (.ref f2s), .unset]) rfl rfl ?_
      refine go_aload (q := 80) X61 hx (hb hby at_78) (v := (.ref r_53)) rfl rfl rfl ?_
      refine go_iconst (q := 81) X61 hx (hb hby at_80) (v := (1 : Int32)) (by decide) rfl ?_
      have f62 : Exa Z h59 r_53 "java/util/ImmutableCollections$List12" := (f56.keep K59)
      have f63 : Fld Z h59 r_53 "java/util/ImmutableCollections$List12" "e1" "Ljava/lang/Object;" (.ref g2s) := ((p53_3.keep K55 nin0).keep K59 nin0)
      refine go_iface (q := 86) X61 hx hZ hown (y := (⟨"java/util/List", "get", "(I)Ljava/lang/Object;"⟩ : MethodName)) (z := (⟨"java/util/ImmutableCollections$List12", "get", "(I)Ljava/lang/Object;"⟩ : MethodName)) (a := r_53) (w67 hw) (w68 hw) (mvT hZ (w69 hw)) (w70 hw) (w71 hw) (w72 hw) (w73 hw) (w63 hw) (w22 hw) (w74 hw) (by decide) e61 f62 (b10_1 l Z a0 hw r_53 g2s em h59 n0 O60 f63 S_0 (ne_exa P_26 P_1 (by decide))) (argsL := [(.int (1 : Int32))]) (rest := []) rfl (lenOf pd_6 rfl) rfl (by rw [hml]; rfl) (W := 0) (Nat.le_of_eq rfl) (hb hby at_81) (by decide) (by decide) (by decide) (by decide) rfl ?_
      rintro T64 h64 _ L64 X64 e64 ⟨rfl, M64, K64⟩
      have N64 := Fr.app N59 M64
      have O65 : Old Z n0 h64 := (O60.keep K64 all0)
      refine go_cast1 (q := 89) X64 hx hZ hown (w75 hw) e64 (Ins.self (P_26.ext O65.2)) (hb hby at_86) rfl ?_
      intro T66 X66 e66
      refine go_astore (q := 91) X66 hx (hb hby at_89) rfl (l' := #[.val (.int p0), .val (.int ((p0 &&& (2147483647 : Int32)) % (3 : Int32))), .val (.ref c2s), .val (.ref pG), .val (.ref r_53), .val (.ref f2s), .val (.ref g2s)]) rfl rfl ?_
      refine go_aload (q := 93) X66 hx (hb hby at_91) (v := (.ref f2s)) rfl rfl rfl ?_
      refine go_aload_n (q := 94) X66 hx (hb hby at_93) (v := (.ref c2s)) rfl rfl rfl ?_
      refine go_virtual (q := 97) X66 hx hZ hown (y := (⟨"com/example/harborspread/harborspread/SpreadContract", "first", "()Lcom/example/harborspread/harborspread/SpreadContract$Leg;"⟩ : MethodName)) (z := (⟨"com/example/harborspread/harborspread/SpreadContract", "first", "()Lcom/example/harborspread/harborspread/SpreadContract$Leg;"⟩ : MethodName)) (a := c2s) (w77 hw) (w78 hw) (notFace_of_selects (args := #[]) (mvT hZ (w80 hw))) (w80 hw) (w79 hw) (w2 hw) (w81 hw) (by decide) e66 (P_22.ext O65.2) (b11 l Z a0 hw c2s f2s h64 n0 O65 P_23) (argsL := []) (rest := [(.ref f2s)]) rfl (lenOf pd_7 rfl) rfl (by rw [hml]; rfl) (W := 1) (Nat.le_of_eq rfl) (hb hby at_94) (by decide) (by decide) (by decide) (by decide) rfl ?_
      rintro T67 h67 _ L67 X67 e67 ⟨rfl, M67, K67⟩
      have N67 := Fr.app N64 M67
      refine go_acmp (q := 100) (same := true) X67 hx (hb hby at_97) rfl rfl (decide_eq_true rfl) (by decide) (by decide) ?_
      refine go_aload (q := 102) X67 hx (hb hby at_100) (v := (.ref g2s)) rfl rfl rfl ?_
      refine go_aload_n (q := 103) X67 hx (hb hby at_102) (v := (.ref c2s)) rfl rfl rfl ?_
      have O68 : Old Z n0 h67 := (O65.keep K67 all0)
      refine go_virtual (q := 106) X67 hx hZ hown (y := (⟨"com/example/harborspread/harborspread/SpreadContract", "second", "()Lcom/example/harborspread/harborspread/SpreadContract$Leg;"⟩ : MethodName)) (z := (⟨"com/example/harborspread/harborspread/SpreadContract", "second", "()Lcom/example/harborspread/harborspread/SpreadContract$Leg;"⟩ : MethodName)) (a := c2s) (w82 hw) (w83 hw) (notFace_of_selects (args := #[]) (mvT hZ (w85 hw))) (w85 hw) (w84 hw) (w2 hw) (w86 hw) (by decide) e67 (P_22.ext O68.2) (b12 l Z a0 hw c2s g2s h67 n0 O68 P_24) (argsL := []) (rest := [(.ref g2s)]) rfl (lenOf pd_7 rfl) rfl (by rw [hml]; rfl) (W := 1) (Nat.le_of_eq rfl) (hb hby at_103) (by decide) (by decide) (by decide) (by decide) rfl ?_
      rintro T69 h69 _ L69 X69 e69 ⟨rfl, M69, K69⟩
      have N69 := Fr.app N67 M69
      refine go_acmp (q := 109) (same := true) X69 hx (hb hby at_106) rfl rfl (decide_eq_true rfl) (by decide) (by decide) ?_
      refine go_aload (q := 111) X69 hx (hb hby at_109) (v := (.ref f2s)) rfl rfl rfl ?_
      have O70 : Old Z n0 h69 := (O68.keep K69 all0)
      refine go_virtual (q := 114) X69 hx hZ hown (y := (⟨"com/example/harborspread/harborspread/SpreadContract$Leg", "product", "()Lcom/example/harborspread/harborspread/Product;"⟩ : MethodName)) (z := (⟨"com/example/harborspread/harborspread/SpreadContract$Leg", "product", "()Lcom/example/harborspread/harborspread/Product;"⟩ : MethodName)) (a := f2s) (w87 hw) (w88 hw) (notFace_of_selects (args := #[]) (mvT hZ (w90 hw))) (w90 hw) (w89 hw) (w91 hw) (w92 hw) (by decide) e69 (P_25.ext O70.2) (b13 l Z a0 hw f2s pH h69 n0 O70 P_27) (argsL := []) (rest := []) rfl (lenOf pd_8 rfl) rfl (by rw [hml]; rfl) (W := 0) (Nat.le_of_eq rfl) (hb hby at_111) (by decide) (by decide) (by decide) (by decide) rfl ?_
      rintro T71 h71 _ L71 X71 e71 ⟨rfl, M71, K71⟩
      have N71 := Fr.app N69 M71
      have O73 : Old Z n0 h71 := (O70.keep K71 all0)
      refine go_getS (q := 117) (host := "") X71 hx hZ hown (Or.inl (w96 hw)) Via.refl e71 (Sta.ext O73.2 S_3) (hb hby at_114) rfl ?_
      intro T72 X72 e72
      refine go_acmp (q := 120) (same := true) X72 hx (hb hby at_117) rfl rfl (decide_eq_true rfl) (by decide) (by decide) ?_
      refine go_aload (q := 122) X72 hx (hb hby at_120) (v := (.ref g2s)) rfl rfl rfl ?_
      refine go_virtual (q := 125) X72 hx hZ hown (y := (⟨"com/example/harborspread/harborspread/SpreadContract$Leg", "product", "()Lcom/example/harborspread/harborspread/Product;"⟩ : MethodName)) (z := (⟨"com/example/harborspread/harborspread/SpreadContract$Leg", "product", "()Lcom/example/harborspread/harborspread/Product;"⟩ : MethodName)) (a := g2s) (w87 hw) (w88 hw) (notFace_of_selects (args := #[]) (mvT hZ (w90 hw))) (w90 hw) (w89 hw) (w91 hw) (w92 hw) (by decide) e72 (P_26.ext O73.2) (b13 l Z a0 hw g2s pG h71 n0 O73 P_28) (argsL := []) (rest := []) rfl (lenOf pd_8 rfl) rfl (by rw [hml]; rfl) (W := 0) (Nat.le_of_eq rfl) (hb hby at_122) (by decide) (by decide) (by decide) (by decide) rfl ?_
      rintro T74 h74 _ L74 X74 e74 ⟨rfl, M74, K74⟩
      have N74 := Fr.app N71 M74
      refine go_aload_n (q := 126) X74 hx (hb hby at_125) (v := (.ref pG)) rfl rfl rfl ?_
      refine go_acmp (q := 129) (same := true) X74 hx (hb hby at_126) rfl rfl (decide_eq_true rfl) (by decide) (by decide) ?_
      refine go_iconst (q := 130) X74 hx (hb hby at_129) (v := (1 : Int32)) (by decide) rfl ?_
      refine go_goto (q := 134) X74 hx (hb hby at_130) (by decide) (by decide) ?_
      refine go_retI X74 hx hret hlk e74 (hb hby at_134) (by simp) (by decide) (by decide) (by decide) ?_
      exact ⟨(by first | rfl | simp [c1, c26] | simp_all), N74, (((((((((Keep.refl h0 []).trans K53 all0).trans K55 all0).trans K59 all0).trans K64 all0).trans K67 all0).trans K69 all0).trans K71 all0).trans K74 all0)⟩
set_option maxRecDepth 65536 in
set_option maxHeartbeats 40000000 in
theorem comes_1 {Post : Tables → Env → Array Value → State → Outcome → State → Prop} (hpost : ∀ tb e args s v u, (limb_1_1.after args s (.returned v) u = true ∧ limb_1_2.after args s (.returned v) u = true ∧ True) → FrameEnd s (.returned v) u (Jvm.fieldLocs frame_1_writes args s ++ Jvm.arrayLocs frame_1_arrays args s ++ Jvm.staticLocs frame_1_statics s) 16 128 → Post tb e args s (.returned v) u) :
    ArmFor flags0 classFile x code maxLocals ret World_1 tables_1 room_1 Calls_1 rest_1 Pre_1 Post := by
  intro l hfl _ _ p e ha hc hk s m args below hf hA hF happ hP
  obtain ⟨hcalls, hrest, hpre⟩ := hP
  obtain ⟨-, -, -, hnamed, -, -, -, hat⟩ := (Spec.applies_iff hf).mp happ
  obtain ⟨hg, hn⟩ := and_e (Cond.before_iff.mp (show (Jvm.Cond.and given_1 narrow_1).before args s = true from hpre))
  obtain ⟨hct, hg⟩ := and_e hg
  obtain ⟨w0, rfl⟩ : ∃ w0 : Value, args = #[w0] := by
    have hs : args.size = 1 := by simpa [Cond.value, given_1] using hct
    obtain ⟨L⟩ := args
    match L, hs with
    | [w0], _ => exact ⟨w0, rfl⟩
  have hw := fun d (hd : d ∈ tables_1) => atoms_spec (ws := Jvm.Cond.code x code maxLocals ret :: tables_1) hat d (List.mem_cons_of_mem _ hd)
  have hfit : Fit s := fun {y c} hc i hi => by
    obtain ⟨ha, rfl⟩ := Array.getElem?_eq_some_iff.mp hc
    have q := List.all_eq_true.mp ((Array.all_eq_true_iff_forall_mem.mp hF) _ (Array.getElem_mem ha)) i (List.mem_range.mpr hi)
    simpa [Array.getElem?_eq_getElem hi] using q
  obtain ⟨i0, q0⟩ := is_v hg
  obtain rfl : w0 = (.int i0) := Option.some.inj q0
  obtain ⟨hsets, hown0⟩ := atoms_of _ (rest_1_c_eq ▸ (show rest_1_c.before _ s = true from hrest))
  obtain ⟨x3, v3⟩ := exa_v (Cond.before_iff.mp (hsets _ (List.mem_of_getElem? (i := 2) rfl)))
  have S4 : Sta s s.heap "java/util/ImmutableCollections" "EMPTY" "Ljava/lang/Object;" (.ref x3) := Sta.start v3 (Or.inl (hsets _ (List.mem_of_getElem? (i := 1) rfl)))
  have E3 : Exa s s.heap x3 "java/lang/Object" := Exa.start v3 (Cond.before_iff.mp (hsets _ (List.mem_of_getElem? (i := 2) rfl)))
  have v7 := own_eqI (Cond.before_iff.mp (hsets _ (List.mem_of_getElem? (i := 5) rfl)))
  have S8 : Sta s s.heap "java/util/ImmutableCollections" "$assertionsDisabled" "Z" (.int (1 : Int32)) := Sta.start v7 (Or.inl (hsets _ (List.mem_of_getElem? (i := 4) rfl)))
  obtain ⟨x11, v11⟩ := exa_v (Cond.before_iff.mp (hsets _ (List.mem_of_getElem? (i := 8) rfl)))
  have S12 : Sta s s.heap "java/util/ImmutableCollections" "EMPTY_LIST" "Ljava/util/ImmutableCollections$ListN;" (.ref x11) := Sta.start v11 (Or.inl (hsets _ (List.mem_of_getElem? (i := 7) rfl)))
  have E11 : Exa s s.heap x11 "java/util/ImmutableCollections$ListN" := Exa.start v11 (Cond.before_iff.mp (hsets _ (List.mem_of_getElem? (i := 8) rfl)))
  obtain ⟨n13, hn⟩ := and_e hn
  obtain ⟨x14, v14⟩ := exa_v n13
  have S15 : Sta s s.heap "com/example/harborspread/harborspread/SpreadContract" "ULSD_BRENT_CRACK" "Lcom/example/harborspread/harborspread/SpreadContract;" (.ref x14) := Sta.start v14 (Or.inr ⟨(w2 hw), (w3 hw)⟩)
  have E14 : Exa s s.heap x14 "com/example/harborspread/harborspread/SpreadContract" := Exa.start v14 n13
  obtain ⟨n16, hn⟩ := and_e hn
  obtain ⟨x17, v17⟩ := exa_v n16
  have S18 : Sta s s.heap "com/example/harborspread/harborspread/Product" "B" "Lcom/example/harborspread/harborspread/Product;" (.ref x17) := Sta.start v17 (Or.inr ⟨(w5 hw), (w6 hw)⟩)
  have E17 : Exa s s.heap x17 "com/example/harborspread/harborspread/Product" := Exa.start v17 n16
  obtain ⟨n19, hn⟩ := and_e hn
  obtain ⟨x20, v20⟩ := exa_v n19
  have F21 : Fld s s.heap x14 "com/example/harborspread/harborspread/SpreadContract" "first" "Lcom/example/harborspread/harborspread/SpreadContract$Leg;" (.ref x20) := Fld.start ((fld_at v14).symm.trans v20)
  have E20 : Exa s s.heap x20 "com/example/harborspread/harborspread/SpreadContract$Leg" := Exa.start v20 n19
  obtain ⟨n22, hn⟩ := and_e hn
  obtain ⟨x23, v23⟩ := exa_v n22
  have F24 : Fld s s.heap x14 "com/example/harborspread/harborspread/SpreadContract" "second" "Lcom/example/harborspread/harborspread/SpreadContract$Leg;" (.ref x23) := Fld.start ((fld_at v14).symm.trans v23)
  have E23 : Exa s s.heap x23 "com/example/harborspread/harborspread/SpreadContract$Leg" := Exa.start v23 n22
  obtain ⟨n25, hn⟩ := and_e hn
  obtain ⟨x26, v26⟩ := exa_v n25
  have S27 : Sta s s.heap "com/example/harborspread/harborspread/Product" "HO" "Lcom/example/harborspread/harborspread/Product;" (.ref x26) := Sta.start v26 (Or.inr ⟨(w5 hw), (w95 hw)⟩)
  have E26 : Exa s s.heap x26 "com/example/harborspread/harborspread/Product" := Exa.start v26 n25
  obtain ⟨n28, hn⟩ := and_e hn
  have v29 := own_eqR n28 v26
  have F30 : Fld s s.heap x20 "com/example/harborspread/harborspread/SpreadContract$Leg" "product" "Lcom/example/harborspread/harborspread/Product;" (.ref x26) := Fld.start ((fld_at v20).symm.trans v29)
  obtain ⟨n31, hn⟩ := and_e hn
  have v32 := own_eqR n31 v17
  have F33 : Fld s s.heap x23 "com/example/harborspread/harborspread/SpreadContract$Leg" "product" "Lcom/example/harborspread/harborspread/Product;" (.ref x17) := Fld.start ((fld_at v23).symm.trans v32)
  obtain ⟨n34, hn⟩ := and_e hn
  obtain ⟨x35, v35⟩ := exa_v n34
  have S36 : Sta s s.heap "com/example/harborspread/harborspread/SpreadContract" "ULSD_GASOIL_METRIC_TONS" "Lcom/example/harborspread/harborspread/SpreadContract;" (.ref x35) := Sta.start v35 (Or.inr ⟨(w2 hw), (w98 hw)⟩)
  have E35 : Exa s s.heap x35 "com/example/harborspread/harborspread/SpreadContract" := Exa.start v35 n34
  obtain ⟨n37, hn⟩ := and_e hn
  obtain ⟨x38, v38⟩ := exa_v n37
  have S39 : Sta s s.heap "com/example/harborspread/harborspread/Product" "G" "Lcom/example/harborspread/harborspread/Product;" (.ref x38) := Sta.start v38 (Or.inr ⟨(w5 hw), (w100 hw)⟩)
  have E38 : Exa s s.heap x38 "com/example/harborspread/harborspread/Product" := Exa.start v38 n37
  obtain ⟨n40, hn⟩ := and_e hn
  obtain ⟨x41, v41⟩ := exa_v n40
  have F42 : Fld s s.heap x35 "com/example/harborspread/harborspread/SpreadContract" "first" "Lcom/example/harborspread/harborspread/SpreadContract$Leg;" (.ref x41) := Fld.start ((fld_at v35).symm.trans v41)
  have E41 : Exa s s.heap x41 "com/example/harborspread/harborspread/SpreadContract$Leg" := Exa.start v41 n40
  obtain ⟨n43, hn⟩ := and_e hn
  obtain ⟨x44, v44⟩ := exa_v n43
  have F45 : Fld s s.heap x35 "com/example/harborspread/harborspread/SpreadContract" "second" "Lcom/example/harborspread/harborspread/SpreadContract$Leg;" (.ref x44) := Fld.start ((fld_at v35).symm.trans v44)
  have E44 : Exa s s.heap x44 "com/example/harborspread/harborspread/SpreadContract$Leg" := Exa.start v44 n43
  obtain ⟨n46, hn⟩ := and_e hn
  have v47 := own_eqR n46 v26
  have F48 : Fld s s.heap x41 "com/example/harborspread/harborspread/SpreadContract$Leg" "product" "Lcom/example/harborspread/harborspread/Product;" (.ref x26) := Fld.start ((fld_at v41).symm.trans v47)
  obtain ⟨n49, hn⟩ := and_e hn
  have v50 := own_eqR n49 v38
  have F51 : Fld s s.heap x44 "com/example/harborspread/harborspread/SpreadContract$Leg" "product" "Lcom/example/harborspread/harborspread/Product;" (.ref x38) := Fld.start ((fld_at v44).symm.trans v50)
  obtain ⟨n52, hn⟩ := and_e hn
  obtain ⟨x53, v53⟩ := exa_v n52
  have S54 : Sta s s.heap "com/example/harborspread/harborspread/SpreadContract" "ULSD_GASOIL_BARRELS" "Lcom/example/harborspread/harborspread/SpreadContract;" (.ref x53) := Sta.start v53 (Or.inr ⟨(w2 hw), (w102 hw)⟩)
  have E53 : Exa s s.heap x53 "com/example/harborspread/harborspread/SpreadContract" := Exa.start v53 n52
  obtain ⟨n55, hn⟩ := and_e hn
  obtain ⟨x56, v56⟩ := exa_v n55
  have F57 : Fld s s.heap x53 "com/example/harborspread/harborspread/SpreadContract" "first" "Lcom/example/harborspread/harborspread/SpreadContract$Leg;" (.ref x56) := Fld.start ((fld_at v53).symm.trans v56)
  have E56 : Exa s s.heap x56 "com/example/harborspread/harborspread/SpreadContract$Leg" := Exa.start v56 n55
  obtain ⟨n58, hn⟩ := and_e hn
  obtain ⟨x59, v59⟩ := exa_v n58
  have F60 : Fld s s.heap x53 "com/example/harborspread/harborspread/SpreadContract" "second" "Lcom/example/harborspread/harborspread/SpreadContract$Leg;" (.ref x59) := Fld.start ((fld_at v53).symm.trans v59)
  have E59 : Exa s s.heap x59 "com/example/harborspread/harborspread/SpreadContract$Leg" := Exa.start v59 n58
  obtain ⟨n61, hn⟩ := and_e hn
  have v62 := own_eqR n61 v26
  have F63 : Fld s s.heap x56 "com/example/harborspread/harborspread/SpreadContract$Leg" "product" "Lcom/example/harborspread/harborspread/Product;" (.ref x26) := Fld.start ((fld_at v56).symm.trans v62)
  have v64 := own_eqR hn v38
  have F65 : Fld s s.heap x59 "com/example/harborspread/harborspread/SpreadContract$Leg" "product" "Lcom/example/harborspread/harborspread/Product;" (.ref x38) := Fld.start ((fld_at v59).symm.trans v64)
  obtain ⟨n, o, h1, h2, h3, _, L, rfl, ⟨rfl, N, -⟩, hq⟩ := b0 l s _ hw i0 x3 x17 x26 x38 x14 x20 x23 x53 x56 x59 x35 x41 x44 s.heap s.heap.size (Old.start s) S4 E3 S18 S27 S39 S15 E14 F21 F24 E20 E23 F30 F33 S54 E53 F57 F60 E56 E59 F63 F65 S36 E35 F42 F45 E41 E44 F48 F51 tables_1 p e ha hc hk s m _ below hf ((Spec.applies_iff_loose hf).mp happ).1 ⟨rfl, State.Warmed39.refl s, rfl⟩ trivial
  refine ⟨n, _, h1, h2, h3, hpost _ _ _ _ _ _ ⟨Cond.after_iff.mpr rfl, Cond.after_iff.mpr (eq_i res_at (Term.int_eval (1)) rfl), trivial⟩ ⟨hq.1, hq.2.1, (hq.2.2.sift fun y hy => Or.inr (N y hy)).mono (by decide) (by decide)⟩⟩
theorem main_1_1 : Claimed_1_1 := comes_1 fun _ _ _ _ _ _ h hF => ⟨h.1, hF⟩
theorem main_1_2 : Claimed_1_2 := comes_1 fun _ _ _ _ _ _ h hF => ⟨h.2.1, hF⟩

end Jvm.Pilot.@@N@@
namespace Jvm.Pilot.@@N@@
open Jvm Jvm.ClassFile Sem Op Lib Jvm.Free Jvm.Stand Jvm.Pilot.@@N@@.Jvm.D
/-! MADE BY PROGRAM (witnessworld.py) out of the Statement's table words and the real class files: 27 classes; the members and pool entries that the words name. The judged class is class 1, her method 1. -/
namespace start1
open Jvm.ClassFile
def u (s : String) : CpInfo := .utf8 (stringToUtf16 s)
/-- a pool by its gaps: so many unusable entries, then the entry; so many at the end -/
def gap : Nat → List CpInfo → List CpInfo
  | 0, r => r
  | n + 1, r => .unusable :: gap n r
def poolList (es : List (Nat × CpInfo)) (last : Nat) : List CpInfo := es.foldr (fun e r => gap e.1 (e.2 :: r)) (gap last [])
def pool (es : List (Nat × CpInfo)) (last : Nat) : Array CpInfo := ⟨poolList es last⟩
def fileOf (pool : Array CpInfo) (this : Nat) (attrs : Array Attribute := #[]) (ms : Array MethodInfo := #[]) (fl : Nat := 33) (sup : Nat := 0) (ifs : Array Nat := #[]) (fds : Array FieldInfo := #[]) : ClassFile where
  minorVersion := 0
  majorVersion := 65
  constantPool := pool
  accessFlags := fl
  thisClass := this
  superClass := sup
  interfaces := ifs
  fields := fds
  methods := ms
  attributes := attrs
def plain (name : String) (sup : Option ClassId) : Class where
  name := name
  kind := .ordinary
  loader := none
  accessFlags := 33
  super := sup
  interfaces := #[]
  cf := none
  fields := #[]
  methods := #[]
  instanceTypes := #[]
  staticTypes := #[]
  resolved := #[]
  callSites := []
  init := .initialized
  statics := none
  mirror := none

def pool0 : Array CpInfo := pool [(5, u "<init>"), (0, u "()V"), (1, .class_ 10), (1, u "java/lang/Object")] 113

def k0c0 : Code := { maxStack := 0, maxLocals := 1, code := object_method_1_code, exceptionTable := #[], attributes := #[] }
def k0m0 : Method := { name := "<init>", desc := "()V", sig := { parameters := [], returnType := none }, accessFlags := 1, code := some k0c0 }
/-- java/lang/Object -/
def k0 : Class := { plain "java/lang/Object" none with
  accessFlags := 33
  interfaces := #[]
  cf := some (fileOf pool0 8 #[] #[{ accessFlags := 1, nameIndex := 5, descriptorIndex := 6, attributes := #[] }] 33 0 #[] #[])
  fields := #[]
  methods := #[k0m0]
  instanceTypes := #[]
  staticTypes := #[]
  resolved := Array.replicate 124 none
  statics := none }

def pool1 : Array CpInfo := pool [(2, .class_ 4), (1, u "java/lang/Object"), (0, u "<init>"), (0, u "()V"), (0, .integer 2147483647), (0, .fieldref 9 10), (0, .class_ 11), (0, .nameAndType 12 13), (0, u "com/example/harborspread/harborspread/SpreadContract"), (0, u "ULSD_BRENT_CRACK"), (0, u "Lcom/example/harborspread/harborspread/SpreadContract;"), (0, .fieldref 15 16), (0, .class_ 17), (0, .nameAndType 18 19), (0, u "com/example/harborspread/harborspread/Product"), (0, u "B"), (0, u "Lcom/example/harborspread/harborspread/Product;"), (0, .fieldref 9 21), (0, .nameAndType 22 13), (0, u "ULSD_GASOIL_BARRELS"), (0, .fieldref 15 24), (0, .nameAndType 25 19), (0, u "G"), (0, .fieldref 9 27), (0, .nameAndType 28 13), (0, u "ULSD_GASOIL_METRIC_TONS"), (0, .methodref 9 30), (0, .nameAndType 31 32), (0, u "legs"), (0, u "()Ljava/util/List;"), (0, .interfaceMethodref 34 35), (0, .class_ 36), (0, .nameAndType 37 38), (0, u "java/util/List"), (0, u "size"), (0, u "()I"), (0, .interfaceMethodref 34 40), (0, .nameAndType 41 42), (0, u "get"), (0, u "(I)Ljava/lang/Object;"), (0, .class_ 44), (0, u "com/example/harborspread/harborspread/SpreadContract$Leg"), (0, .methodref 9 46), (0, .nameAndType 47 48), (0, u "first"), (0, u "()Lcom/example/harborspread/harborspread/SpreadContract$Leg;"), (0, .methodref 9 50), (0, .nameAndType 51 48), (0, u "second"), (0, .methodref 43 53), (0, .nameAndType 54 55), (0, u "product"), (0, u "()Lcom/example/harborspread/harborspread/Product;"), (0, .fieldref 15 57), (0, .nameAndType 58 19), (0, u "HO"), (0, .class_ 60), (0, u "com/example/harborspread/harborspread/SpreadContractLegsPinLaw"), (2, u "law"), (0, u "(I)Z")] 5

def k1m0 : Method := { name := "<init>", desc := "()V", sig := { parameters := [], returnType := none }, accessFlags := 1, code := none }
def k1c1 : Code := { maxStack := 2, maxLocals := 7, code := code, exceptionTable := #[], attributes := #[] }
def k1m1 : Method := { name := "law", desc := "(I)Z", sig := { parameters := [.int], returnType := some .boolean }, accessFlags := 9, code := some k1c1 }
/-- com/example/harborspread/harborspread/SpreadContractLegsPinLaw -/
def k1 : Class := { plain "com/example/harborspread/harborspread/SpreadContractLegsPinLaw" (some 0) with
  accessFlags := 49
  interfaces := #[]
  cf := some (fileOf pool1 59 #[] #[{ accessFlags := 1, nameIndex := 5, descriptorIndex := 6, attributes := #[] }, { accessFlags := 9, nameIndex := 63, descriptorIndex := 64, attributes := #[] }] 49 2 #[] #[])
  fields := #[]
  methods := #[k1m0, k1m1]
  instanceTypes := #[]
  staticTypes := #[]
  resolved := Array.replicate 70 none
  statics := none }

def pool2 : Array CpInfo := pool [(1, .class_ 2), (0, u "java/lang/constant/Constable"), (0, .class_ 4), (0, u "java/lang/Object")] 6

/-- java/lang/constant/Constable -/
def k2 : Class := { plain "java/lang/constant/Constable" (some 0) with
  accessFlags := 1537
  interfaces := #[]
  cf := some (fileOf pool2 1 #[] #[] 1537 3 #[] #[])
  fields := #[]
  methods := #[]
  instanceTypes := #[]
  staticTypes := #[]
  resolved := Array.replicate 11 none
  statics := none }

def pool3 : Array CpInfo := pool [(1, .class_ 2), (0, u "java/lang/Comparable"), (0, .class_ 4), (0, u "java/lang/Object")] 7

/-- java/lang/Comparable -/
def k3 : Class := { plain "java/lang/Comparable" (some 0) with
  accessFlags := 1537
  interfaces := #[]
  cf := some (fileOf pool3 1 #[] #[] 1537 3 #[] #[])
  fields := #[]
  methods := #[]
  instanceTypes := #[]
  staticTypes := #[]
  resolved := Array.replicate 12 none
  statics := none }

def pool4 : Array CpInfo := pool [(1, .class_ 2), (0, u "java/io/Serializable"), (0, .class_ 4), (0, u "java/lang/Object")] 2

/-- java/io/Serializable -/
def k4 : Class := { plain "java/io/Serializable" (some 0) with
  accessFlags := 1537
  interfaces := #[]
  cf := some (fileOf pool4 1 #[] #[] 1537 3 #[] #[])
  fields := #[]
  methods := #[]
  instanceTypes := #[]
  staticTypes := #[]
  resolved := Array.replicate 7 none
  statics := none }

def pool5 : Array CpInfo := pool [(2, .class_ 4), (1, u "java/lang/Enum"), (0, u "name"), (0, u "Ljava/lang/String;"), (2, u "ordinal"), (0, u "I"), (1, .class_ 14), (1, u "java/lang/Object"), (4, u "hash"), (86, .class_ 108), (1, u "java/lang/Enum$EnumDesc"), (2, .class_ 112), (0, u "java/lang/constant/Constable"), (0, .class_ 114), (0, u "java/lang/Comparable"), (0, .class_ 116), (0, u "java/io/Serializable")] 87

/-- java/lang/Enum -/
def k5 : Class := { plain "java/lang/Enum" (some 0) with
  accessFlags := 1057
  interfaces := #[2, 3, 4]
  cf := some (fileOf pool5 2 #[.nestMembers #[106]] #[] 1057 12 #[111, 113, 115] #[{ accessFlags := 18, nameIndex := 5, descriptorIndex := 6, attributes := #[] }, { accessFlags := 18, nameIndex := 9, descriptorIndex := 10, attributes := #[] }, { accessFlags := 2, nameIndex := 19, descriptorIndex := 10, attributes := #[] }])
  fields := #[{ name := "name", type := (.object "java/lang/String"), accessFlags := 18, slot := 0, constantValue := 0 }, { name := "ordinal", type := .int, accessFlags := 18, slot := 1, constantValue := 0 }, { name := "hash", type := .int, accessFlags := 2, slot := 2, constantValue := 0 }]
  methods := #[]
  instanceTypes := #[(.object "java/lang/String"), .int, .int]
  staticTypes := #[]
  resolved := Array.replicate 204 none
  statics := none }

def pool6 : Array CpInfo := pool [(26, .class_ 28), (1, u "com/example/harborspread/harborspread/RulebookContract"), (51, .class_ 81), (0, u "java/lang/Object")] 43

/-- com/example/harborspread/harborspread/RulebookContract -/
def k6 : Class := { plain "com/example/harborspread/harborspread/RulebookContract" (some 0) with
  accessFlags := 1537
  interfaces := #[]
  cf := some (fileOf pool6 26 #[] #[] 1537 80 #[] #[])
  fields := #[]
  methods := #[]
  instanceTypes := #[]
  staticTypes := #[]
  resolved := Array.replicate 125 none
  statics := none }

def pool7 : Array CpInfo := pool [(1, .class_ 2), (0, u "com/example/harborspread/harborspread/SpreadContract"), (2, u "ULSD_BRENT_CRACK"), (0, u "Lcom/example/harborspread/harborspread/SpreadContract;"), (2, u "ULSD_GASOIL_BARRELS"), (2, u "ULSD_GASOIL_METRIC_TONS"), (2, u "$VALUES"), (0, u "[Lcom/example/harborspread/harborspread/SpreadContract;"), (6, .class_ 25), (1, u "java/lang/Enum"), (8, u "chapter"), (0, u "I"), (2, u "unit"), (0, u "Lcom/example/harborspread/harborspread/Unit;"), (7, u "tick"), (0, u "Ljava/math/BigDecimal;"), (7, u "size"), (0, u "Lcom/example/harborspread/harborspread/ContractSize;"), (0, .fieldref 1 59), (0, .nameAndType 60 61), (0, u "first"), (0, u "Lcom/example/harborspread/harborspread/SpreadContract$Leg;"), (0, .fieldref 1 63), (0, .nameAndType 64 61), (0, u "second"), (4, .interfaceMethodref 70 71), (0, .class_ 72), (0, .nameAndType 73 74), (0, u "java/util/List"), (0, u "of"), (0, u "(Ljava/lang/Object;Ljava/lang/Object;)Ljava/util/List;"), (1, .class_ 78), (1, u "com/example/harborspread/harborspread/SpreadContract$Leg"), (51, .class_ 131), (0, u "com/example/harborspread/harborspread/RulebookContract"), (0, u "SETTLED_HERE"), (0, u "Ljava/lang/String;"), (13, u "()Lcom/example/harborspread/harborspread/SpreadContract$Leg;"), (0, u "legs"), (0, u "()Ljava/util/List;")] 12

def k7c0 : Code := { maxStack := 1, maxLocals := 1, code := prog_53_method_8_code, exceptionTable := #[], attributes := #[] }
def k7m0 : Method := { name := "first", desc := "()Lcom/example/harborspread/harborspread/SpreadContract$Leg;", sig := { parameters := [], returnType := some (.object "com/example/harborspread/harborspread/SpreadContract$Leg") }, accessFlags := 0, code := some k7c0 }
def k7c1 : Code := { maxStack := 1, maxLocals := 1, code := prog_53_method_9_code, exceptionTable := #[], attributes := #[] }
def k7m1 : Method := { name := "second", desc := "()Lcom/example/harborspread/harborspread/SpreadContract$Leg;", sig := { parameters := [], returnType := some (.object "com/example/harborspread/harborspread/SpreadContract$Leg") }, accessFlags := 0, code := some k7c1 }
def k7c2 : Code := { maxStack := 2, maxLocals := 1, code := prog_53_method_10_code, exceptionTable := #[], attributes := #[] }
def k7m2 : Method := { name := "legs", desc := "()Ljava/util/List;", sig := { parameters := [], returnType := some (.object "java/util/List") }, accessFlags := 0, code := some k7c2 }
/-- com/example/harborspread/harborspread/SpreadContract -/
def k7 : Class := { plain "com/example/harborspread/harborspread/SpreadContract" (some 5) with
  accessFlags := 16433
  interfaces := #[6]
  cf := some (fileOf pool7 1 #[.nestMembers #[76]] #[{ accessFlags := 0, nameIndex := 60, descriptorIndex := 147, attributes := #[] }, { accessFlags := 0, nameIndex := 64, descriptorIndex := 147, attributes := #[] }, { accessFlags := 0, nameIndex := 148, descriptorIndex := 149, attributes := #[] }] 16433 23 #[130] #[{ accessFlags := 16409, nameIndex := 5, descriptorIndex := 6, attributes := #[] }, { accessFlags := 16409, nameIndex := 9, descriptorIndex := 6, attributes := #[] }, { accessFlags := 16409, nameIndex := 12, descriptorIndex := 6, attributes := #[] }, { accessFlags := 25, nameIndex := 132, descriptorIndex := 133, attributes := #[] }, { accessFlags := 18, nameIndex := 34, descriptorIndex := 35, attributes := #[] }, { accessFlags := 18, nameIndex := 38, descriptorIndex := 39, attributes := #[] }, { accessFlags := 18, nameIndex := 47, descriptorIndex := 48, attributes := #[] }, { accessFlags := 18, nameIndex := 56, descriptorIndex := 57, attributes := #[] }, { accessFlags := 18, nameIndex := 60, descriptorIndex := 61, attributes := #[] }, { accessFlags := 18, nameIndex := 64, descriptorIndex := 61, attributes := #[] }, { accessFlags := 4122, nameIndex := 15, descriptorIndex := 16, attributes := #[] }])
  fields := #[{ name := "ULSD_BRENT_CRACK", type := (.object "com/example/harborspread/harborspread/SpreadContract"), accessFlags := 16409, slot := 0, constantValue := 0 }, { name := "ULSD_GASOIL_BARRELS", type := (.object "com/example/harborspread/harborspread/SpreadContract"), accessFlags := 16409, slot := 1, constantValue := 0 }, { name := "ULSD_GASOIL_METRIC_TONS", type := (.object "com/example/harborspread/harborspread/SpreadContract"), accessFlags := 16409, slot := 2, constantValue := 0 }, { name := "SETTLED_HERE", type := (.object "java/lang/String"), accessFlags := 25, slot := 3, constantValue := 0 }, { name := "chapter", type := .int, accessFlags := 18, slot := 3, constantValue := 0 }, { name := "unit", type := (.object "com/example/harborspread/harborspread/Unit"), accessFlags := 18, slot := 4, constantValue := 0 }, { name := "tick", type := (.object "java/math/BigDecimal"), accessFlags := 18, slot := 5, constantValue := 0 }, { name := "size", type := (.object "com/example/harborspread/harborspread/ContractSize"), accessFlags := 18, slot := 6, constantValue := 0 }, { name := "first", type := (.object "com/example/harborspread/harborspread/SpreadContract$Leg"), accessFlags := 18, slot := 7, constantValue := 0 }, { name := "second", type := (.object "com/example/harborspread/harborspread/SpreadContract$Leg"), accessFlags := 18, slot := 8, constantValue := 0 }, { name := "$VALUES", type := (.array (.object "com/example/harborspread/harborspread/SpreadContract")), accessFlags := 4122, slot := 4, constantValue := 0 }]
  methods := #[k7m0, k7m1, k7m2]
  instanceTypes := #[(.object "java/lang/String"), .int, .int, .int, (.object "com/example/harborspread/harborspread/Unit"), (.object "java/math/BigDecimal"), (.object "com/example/harborspread/harborspread/ContractSize"), (.object "com/example/harborspread/harborspread/SpreadContract$Leg"), (.object "com/example/harborspread/harborspread/SpreadContract$Leg")]
  staticTypes := #[(.object "com/example/harborspread/harborspread/SpreadContract"), (.object "com/example/harborspread/harborspread/SpreadContract"), (.object "com/example/harborspread/harborspread/SpreadContract"), (.object "java/lang/String"), (.array (.object "com/example/harborspread/harborspread/SpreadContract"))]
  resolved := Array.replicate 162 none
  statics := some 0 }

def pool8 : Array CpInfo := pool [(1, .class_ 2), (0, u "com/example/harborspread/harborspread/Product"), (2, u "HO"), (0, u "Lcom/example/harborspread/harborspread/Product;"), (2, u "B"), (2, u "G"), (2, u "CL"), (2, u "$VALUES"), (0, u "[Lcom/example/harborspread/harborspread/Product;"), (6, .class_ 28), (1, u "java/lang/Enum"), (8, u "exchange"), (0, u "Lcom/example/harborspread/harborspread/Exchange;"), (2, u "unit"), (0, u "Lcom/example/harborspread/harborspread/Unit;"), (2, u "decimals"), (0, u "I"), (12, u "settlementKind"), (0, u "Lcom/example/harborspread/harborspread/ValueKind;"), (2, u "BY_CODE"), (0, u "Ljava/util/Map;")] 114

/-- com/example/harborspread/harborspread/Product -/
def k8 : Class := { plain "com/example/harborspread/harborspread/Product" (some 5) with
  accessFlags := 16432
  interfaces := #[]
  cf := some (fileOf pool8 1 #[] #[] 16432 26 #[] #[{ accessFlags := 16409, nameIndex := 5, descriptorIndex := 6, attributes := #[] }, { accessFlags := 16409, nameIndex := 9, descriptorIndex := 6, attributes := #[] }, { accessFlags := 16409, nameIndex := 12, descriptorIndex := 6, attributes := #[] }, { accessFlags := 16409, nameIndex := 15, descriptorIndex := 6, attributes := #[] }, { accessFlags := 26, nameIndex := 63, descriptorIndex := 64, attributes := #[] }, { accessFlags := 18, nameIndex := 37, descriptorIndex := 38, attributes := #[] }, { accessFlags := 18, nameIndex := 41, descriptorIndex := 42, attributes := #[] }, { accessFlags := 18, nameIndex := 45, descriptorIndex := 46, attributes := #[] }, { accessFlags := 18, nameIndex := 59, descriptorIndex := 60, attributes := #[] }, { accessFlags := 4122, nameIndex := 18, descriptorIndex := 19, attributes := #[] }])
  fields := #[{ name := "HO", type := (.object "com/example/harborspread/harborspread/Product"), accessFlags := 16409, slot := 0, constantValue := 0 }, { name := "B", type := (.object "com/example/harborspread/harborspread/Product"), accessFlags := 16409, slot := 1, constantValue := 0 }, { name := "G", type := (.object "com/example/harborspread/harborspread/Product"), accessFlags := 16409, slot := 2, constantValue := 0 }, { name := "CL", type := (.object "com/example/harborspread/harborspread/Product"), accessFlags := 16409, slot := 3, constantValue := 0 }, { name := "BY_CODE", type := (.object "java/util/Map"), accessFlags := 26, slot := 4, constantValue := 0 }, { name := "exchange", type := (.object "com/example/harborspread/harborspread/Exchange"), accessFlags := 18, slot := 3, constantValue := 0 }, { name := "unit", type := (.object "com/example/harborspread/harborspread/Unit"), accessFlags := 18, slot := 4, constantValue := 0 }, { name := "decimals", type := .int, accessFlags := 18, slot := 5, constantValue := 0 }, { name := "settlementKind", type := (.object "com/example/harborspread/harborspread/ValueKind"), accessFlags := 18, slot := 6, constantValue := 0 }, { name := "$VALUES", type := (.array (.object "com/example/harborspread/harborspread/Product")), accessFlags := 4122, slot := 5, constantValue := 0 }]
  methods := #[]
  instanceTypes := #[(.object "java/lang/String"), .int, .int, (.object "com/example/harborspread/harborspread/Exchange"), (.object "com/example/harborspread/harborspread/Unit"), .int, (.object "com/example/harborspread/harborspread/ValueKind")]
  staticTypes := #[(.object "com/example/harborspread/harborspread/Product"), (.object "com/example/harborspread/harborspread/Product"), (.object "com/example/harborspread/harborspread/Product"), (.object "com/example/harborspread/harborspread/Product"), (.object "java/util/Map"), (.array (.object "com/example/harborspread/harborspread/Product"))]
  resolved := Array.replicate 179 none
  statics := some 1 }

def pool9 : Array CpInfo := pool [(8, .class_ 10), (1, u "java/lang/Iterable"), (24, .class_ 36), (0, u "java/lang/Object")] 25

/-- java/lang/Iterable -/
def k9 : Class := { plain "java/lang/Iterable" (some 0) with
  accessFlags := 1537
  interfaces := #[]
  cf := some (fileOf pool9 8 #[] #[] 1537 35 #[] #[])
  fields := #[]
  methods := #[]
  instanceTypes := #[]
  staticTypes := #[]
  resolved := Array.replicate 62 none
  statics := none }

def pool10 : Array CpInfo := pool [(10, .class_ 12), (1, u "java/util/Collection"), (47, .class_ 61), (0, u "java/lang/Object"), (0, .class_ 63), (0, u "java/lang/Iterable")] 51

/-- java/util/Collection -/
def k10 : Class := { plain "java/util/Collection" (some 0) with
  accessFlags := 1537
  interfaces := #[9]
  cf := some (fileOf pool10 10 #[] #[] 1537 60 #[62] #[])
  fields := #[]
  methods := #[]
  instanceTypes := #[]
  staticTypes := #[]
  resolved := Array.replicate 115 none
  statics := none }

def pool11 : Array CpInfo := pool [(8, .class_ 10), (1, u "java/util/SequencedCollection"), (15, .class_ 27), (0, u "java/lang/Object"), (0, .class_ 29), (0, u "java/util/Collection")] 27

/-- java/util/SequencedCollection -/
def k11 : Class := { plain "java/util/SequencedCollection" (some 0) with
  accessFlags := 1537
  interfaces := #[10]
  cf := some (fileOf pool11 8 #[] #[] 1537 26 #[28] #[])
  fields := #[]
  methods := #[]
  instanceTypes := #[]
  staticTypes := #[]
  resolved := Array.replicate 57 none
  statics := none }

def pool12 : Array CpInfo := pool [(8, .class_ 10), (1, u "java/util/List"), (37, u "<init>"), (26, u "get"), (0, u "(I)Ljava/lang/Object;"), (2, u "size"), (0, u "()I"), (7, u "of"), (7, .class_ 97), (0, u "java/util/ImmutableCollections$List12"), (2, .methodref 96 101), (0, .nameAndType 48 102), (0, u "(Ljava/lang/Object;Ljava/lang/Object;)V"), (0, .class_ 104), (0, u "java/lang/Object"), (15, .class_ 121), (0, u "java/util/SequencedCollection"), (79, u "(Ljava/lang/Object;Ljava/lang/Object;)Ljava/util/List;")] 49

def k12m0 : Method := { name := "size", desc := "()I", sig := { parameters := [], returnType := some .int }, accessFlags := 1025, code := none }
def k12m1 : Method := { name := "get", desc := "(I)Ljava/lang/Object;", sig := { parameters := [.int], returnType := some (.object "java/lang/Object") }, accessFlags := 1025, code := none }
def k12c2 : Code := { maxStack := 4, maxLocals := 2, code := jdk_40_method_38_code, exceptionTable := #[], attributes := #[] }
def k12m2 : Method := { name := "of", desc := "(Ljava/lang/Object;Ljava/lang/Object;)Ljava/util/List;", sig := { parameters := [(.object "java/lang/Object"), (.object "java/lang/Object")], returnType := some (.object "java/util/List") }, accessFlags := 9, code := some k12c2 }
/-- java/util/List -/
def k12 : Class := { plain "java/util/List" (some 0) with
  accessFlags := 1537
  interfaces := #[11]
  cf := some (fileOf pool12 8 #[] #[{ accessFlags := 1025, nameIndex := 79, descriptorIndex := 80, attributes := #[] }, { accessFlags := 1025, nameIndex := 75, descriptorIndex := 76, attributes := #[] }, { accessFlags := 9, nameIndex := 88, descriptorIndex := 201, attributes := #[] }] 1537 103 #[120] #[])
  fields := #[]
  methods := #[k12m0, k12m1, k12m2]
  instanceTypes := #[]
  staticTypes := #[]
  resolved := Array.replicate 251 none
  statics := none }

def pool13 : Array CpInfo := pool [(1, .methodref 2 3), (0, .class_ 4), (0, .nameAndType 5 6), (0, u "java/lang/Object"), (0, u "<init>"), (0, u "()V"), (1, .class_ 10), (1, u "java/util/AbstractCollection"), (66, .class_ 78), (0, u "java/util/Collection")] 81

def k13c0 : Code := { maxStack := 1, maxLocals := 1, code := jdk_22_method_1_code, exceptionTable := #[], attributes := #[] }
def k13m0 : Method := { name := "<init>", desc := "()V", sig := { parameters := [], returnType := none }, accessFlags := 4, code := some k13c0 }
/-- java/util/AbstractCollection -/
def k13 : Class := { plain "java/util/AbstractCollection" (some 0) with
  accessFlags := 1057
  interfaces := #[10]
  cf := some (fileOf pool13 8 #[] #[{ accessFlags := 4, nameIndex := 5, descriptorIndex := 6, attributes := #[] }] 1057 2 #[77] #[])
  fields := #[]
  methods := #[k13m0]
  instanceTypes := #[]
  staticTypes := #[]
  resolved := Array.replicate 160 none
  statics := none }

def pool14 : Array CpInfo := pool [(1, .methodref 2 3), (0, .class_ 4), (0, .nameAndType 5 6), (0, u "java/util/AbstractCollection"), (0, u "<init>"), (0, u "()V"), (1, .class_ 10), (1, u "java/util/ImmutableCollections"), (2, .class_ 14), (0, u "java/util/ImmutableCollections$AbstractImmutableCollection")] 41

def k14c0 : Code := { maxStack := 1, maxLocals := 1, code := jdk_47_method_1_code, exceptionTable := #[], attributes := #[] }
def k14m0 : Method := { name := "<init>", desc := "()V", sig := { parameters := [], returnType := none }, accessFlags := 0, code := some k14c0 }
/-- java/util/ImmutableCollections$AbstractImmutableCollection -/
def k14 : Class := { plain "java/util/ImmutableCollections$AbstractImmutableCollection" (some 13) with
  accessFlags := 1056
  interfaces := #[]
  cf := some (fileOf pool14 13 #[.nestHost 8] #[{ accessFlags := 0, nameIndex := 5, descriptorIndex := 6, attributes := #[] }] 1056 2 #[] #[])
  fields := #[]
  methods := #[k14m0]
  instanceTypes := #[]
  staticTypes := #[]
  resolved := Array.replicate 56 none
  statics := none }

def pool15 : Array CpInfo := pool [(1, .class_ 2), (0, u "java/util/RandomAccess"), (0, .class_ 4), (0, u "java/lang/Object")] 2

/-- java/util/RandomAccess -/
def k15 : Class := { plain "java/util/RandomAccess" (some 0) with
  accessFlags := 1537
  interfaces := #[]
  cf := some (fileOf pool15 1 #[] #[] 1537 3 #[] #[])
  fields := #[]
  methods := #[]
  instanceTypes := #[]
  staticTypes := #[]
  resolved := Array.replicate 7 none
  statics := none }

def pool16 : Array CpInfo := pool [(1, .methodref 2 3), (0, .class_ 4), (0, .nameAndType 5 6), (0, u "java/util/ImmutableCollections$AbstractImmutableCollection"), (0, u "<init>"), (0, u "()V"), (1, .class_ 10), (1, u "java/util/ImmutableCollections"), (3, .class_ 16), (1, u "java/util/ImmutableCollections$AbstractImmutableList"), (60, .class_ 78), (0, u "java/util/List"), (45, .class_ 125), (0, u "java/util/RandomAccess")] 70

def k16c0 : Code := { maxStack := 1, maxLocals := 1, code := jdk_46_method_1_code, exceptionTable := #[], attributes := #[] }
def k16m0 : Method := { name := "<init>", desc := "()V", sig := { parameters := [], returnType := none }, accessFlags := 0, code := some k16c0 }
/-- java/util/ImmutableCollections$AbstractImmutableList -/
def k16 : Class := { plain "java/util/ImmutableCollections$AbstractImmutableList" (some 14) with
  accessFlags := 1056
  interfaces := #[12, 15]
  cf := some (fileOf pool16 14 #[.nestHost 8] #[{ accessFlags := 0, nameIndex := 5, descriptorIndex := 6, attributes := #[] }] 1056 2 #[77, 124] #[])
  fields := #[]
  methods := #[k16m0]
  instanceTypes := #[]
  staticTypes := #[]
  resolved := Array.replicate 196 none
  statics := none }

def pool17 : Array CpInfo := pool [(1, .methodref 2 3), (0, .class_ 4), (0, .nameAndType 5 6), (0, u "java/util/ImmutableCollections$AbstractImmutableList"), (0, u "<init>"), (0, u "()V"), (0, .methodref 8 9), (0, .class_ 10), (0, .nameAndType 11 12), (0, u "java/util/Objects"), (0, u "requireNonNull"), (0, u "(Ljava/lang/Object;)Ljava/lang/Object;"), (0, .fieldref 14 15), (0, .class_ 16), (0, .nameAndType 17 18), (0, u "java/util/ImmutableCollections$List12"), (0, u "e0"), (0, u "Ljava/lang/Object;"), (0, .fieldref 20 21), (0, .class_ 22), (0, .nameAndType 23 18), (0, u "java/util/ImmutableCollections"), (0, u "EMPTY"), (0, .fieldref 14 25), (0, .nameAndType 26 18), (0, u "e1"), (24, u "size"), (0, u "()I"), (17, .class_ 71), (0, u "java/io/Serializable"), (13, u "(Ljava/lang/Object;Ljava/lang/Object;)V"), (4, u "get"), (0, u "(I)Ljava/lang/Object;")] 33

def k17c0 : Code := { maxStack := 2, maxLocals := 3, code := jdk_44_method_2_code, exceptionTable := #[], attributes := #[] }
def k17m0 : Method := { name := "<init>", desc := "(Ljava/lang/Object;Ljava/lang/Object;)V", sig := { parameters := [(.object "java/lang/Object"), (.object "java/lang/Object")], returnType := none }, accessFlags := 0, code := some k17c0 }
def k17c1 : Code := { maxStack := 2, maxLocals := 1, code := jdk_44_method_3_code, exceptionTable := #[], attributes := #[] }
def k17m1 : Method := { name := "size", desc := "()I", sig := { parameters := [], returnType := some .int }, accessFlags := 1, code := some k17c1 }
def k17c2 : Code := { maxStack := 2, maxLocals := 2, code := jdk_44_method_5_code, exceptionTable := #[], attributes := #[] }
def k17m2 : Method := { name := "get", desc := "(I)Ljava/lang/Object;", sig := { parameters := [.int], returnType := some (.object "java/lang/Object") }, accessFlags := 1, code := some k17c2 }
/-- java/util/ImmutableCollections$List12 -/
def k17 : Class := { plain "java/util/ImmutableCollections$List12" (some 16) with
  accessFlags := 48
  interfaces := #[4]
  cf := some (fileOf pool17 14 #[.nestHost 20] #[{ accessFlags := 0, nameIndex := 5, descriptorIndex := 85, attributes := #[] }, { accessFlags := 1, nameIndex := 51, descriptorIndex := 52, attributes := #[] }, { accessFlags := 1, nameIndex := 90, descriptorIndex := 91, attributes := #[] }] 48 2 #[70] #[{ accessFlags := 18, nameIndex := 17, descriptorIndex := 18, attributes := #[] }, { accessFlags := 18, nameIndex := 26, descriptorIndex := 18, attributes := #[] }])
  fields := #[{ name := "e0", type := (.object "java/lang/Object"), accessFlags := 18, slot := 0, constantValue := 0 }, { name := "e1", type := (.object "java/lang/Object"), accessFlags := 18, slot := 1, constantValue := 0 }]
  methods := #[k17m0, k17m1, k17m2]
  instanceTypes := #[(.object "java/lang/Object"), (.object "java/lang/Object")]
  staticTypes := #[]
  resolved := Array.replicate 125 none
  statics := none }

def pool18 : Array CpInfo := pool [(2, .class_ 4), (1, u "java/lang/Object"), (0, u "<init>"), (0, u "()V"), (35, .class_ 44), (1, u "java/util/Objects"), (0, u "requireNonNull"), (0, u "(Ljava/lang/Object;)Ljava/lang/Object;")] 137

def k18m0 : Method := { name := "<init>", desc := "()V", sig := { parameters := [], returnType := none }, accessFlags := 2, code := none }
def k18c1 : Code := { maxStack := 2, maxLocals := 1, code := jdk_31_method_10_code, exceptionTable := #[], attributes := #[] }
def k18m1 : Method := { name := "requireNonNull", desc := "(Ljava/lang/Object;)Ljava/lang/Object;", sig := { parameters := [(.object "java/lang/Object")], returnType := some (.object "java/lang/Object") }, accessFlags := 9, code := some k18c1 }
/-- java/util/Objects -/
def k18 : Class := { plain "java/util/Objects" (some 0) with
  accessFlags := 49
  interfaces := #[]
  cf := some (fileOf pool18 42 #[] #[{ accessFlags := 2, nameIndex := 5, descriptorIndex := 6, attributes := #[] }, { accessFlags := 9, nameIndex := 45, descriptorIndex := 46, attributes := #[] }] 49 2 #[] #[])
  fields := #[]
  methods := #[k18m0, k18m1]
  instanceTypes := #[]
  staticTypes := #[]
  resolved := Array.replicate 184 none
  statics := none }

def pool19 : Array CpInfo := pool [(2, .class_ 4), (1, u "java/lang/Object"), (0, u "<init>"), (0, u "()V"), (3, .class_ 11), (0, u "java/util/ImmutableCollections$List12"), (0, .class_ 13), (0, u "java/util/ImmutableCollections$ListN"), (3, u "Z"), (29, .class_ 49), (1, u "java/util/ImmutableCollections"), (0, u "$assertionsDisabled"), (5, u "[Ljava/lang/Object;"), (5, u "EMPTY_LIST"), (0, u "Ljava/util/ImmutableCollections$ListN;"), (8, u "EMPTY_LIST_NULLS"), (22, u "SALT32L"), (0, u "J"), (2, u "REVERSE"), (6, u "archivedObjects"), (2, u "EMPTY"), (0, u "Ljava/lang/Object;"), (0, .class_ 112), (0, u "java/util/ImmutableCollections$SetN"), (5, u "EMPTY_SET"), (0, u "Ljava/util/ImmutableCollections$SetN;"), (0, .class_ 121), (0, u "java/util/ImmutableCollections$MapN"), (3, u "EMPTY_MAP"), (0, u "Ljava/util/ImmutableCollections$MapN;"), (4, u "EXPAND_FACTOR"), (0, u "I"), (36, .class_ 170), (0, u "java/util/ImmutableCollections$MapN$MapNIterator"), (0, .class_ 172), (0, u "java/util/ImmutableCollections$MapN$1"), (0, .class_ 174), (0, u "java/util/ImmutableCollections$Map1"), (0, .class_ 176), (0, u "java/util/ImmutableCollections$AbstractImmutableMap"), (0, .class_ 178), (0, u "java/util/ImmutableCollections$SetN$SetNIterator"), (0, .class_ 180), (0, u "java/util/ImmutableCollections$Set12"), (0, .class_ 182), (0, u "java/util/ImmutableCollections$Set12$1"), (0, .class_ 184), (0, u "java/util/ImmutableCollections$AbstractImmutableSet"), (0, .class_ 186), (0, u "java/util/ImmutableCollections$SubList"), (0, .class_ 188), (0, u "java/util/ImmutableCollections$ListItr"), (0, .class_ 190), (0, u "java/util/ImmutableCollections$AbstractImmutableList"), (0, .class_ 192), (0, u "java/util/ImmutableCollections$AbstractImmutableCollection"), (0, .class_ 194), (0, u "java/util/ImmutableCollections$Access"), (0, .class_ 196), (0, u "java/util/ImmutableCollections$Access$1")] 16

def k19m0 : Method := { name := "<init>", desc := "()V", sig := { parameters := [], returnType := none }, accessFlags := 2, code := none }
/-- java/util/ImmutableCollections -/
def k19 : Class := { plain "java/util/ImmutableCollections" (some 0) with
  accessFlags := 32
  interfaces := #[]
  cf := some (fileOf pool19 47 #[.nestMembers #[120, 169, 171, 173, 175, 111, 177, 179, 181, 183, 12, 10, 185, 187, 189, 191, 193, 195]] #[{ accessFlags := 2, nameIndex := 5, descriptorIndex := 6, attributes := #[] }] 32 2 #[] #[{ accessFlags := 26, nameIndex := 95, descriptorIndex := 96, attributes := #[] }, { accessFlags := 26, nameIndex := 99, descriptorIndex := 17, attributes := #[] }, { accessFlags := 10, nameIndex := 106, descriptorIndex := 56, attributes := #[] }, { accessFlags := 26, nameIndex := 109, descriptorIndex := 110, attributes := #[] }, { accessFlags := 24, nameIndex := 62, descriptorIndex := 63, attributes := #[] }, { accessFlags := 24, nameIndex := 72, descriptorIndex := 63, attributes := #[] }, { accessFlags := 24, nameIndex := 118, descriptorIndex := 119, attributes := #[] }, { accessFlags := 24, nameIndex := 125, descriptorIndex := 126, attributes := #[] }, { accessFlags := 24, nameIndex := 131, descriptorIndex := 132, attributes := #[] }, { accessFlags := 4120, nameIndex := 50, descriptorIndex := 17, attributes := #[] }])
  fields := #[{ name := "SALT32L", type := .long, accessFlags := 26, slot := 0, constantValue := 0 }, { name := "REVERSE", type := .boolean, accessFlags := 26, slot := 1, constantValue := 0 }, { name := "archivedObjects", type := (.array (.object "java/lang/Object")), accessFlags := 10, slot := 2, constantValue := 0 }, { name := "EMPTY", type := (.object "java/lang/Object"), accessFlags := 26, slot := 3, constantValue := 0 }, { name := "EMPTY_LIST", type := (.object "java/util/ImmutableCollections$ListN"), accessFlags := 24, slot := 4, constantValue := 0 }, { name := "EMPTY_LIST_NULLS", type := (.object "java/util/ImmutableCollections$ListN"), accessFlags := 24, slot := 5, constantValue := 0 }, { name := "EMPTY_SET", type := (.object "java/util/ImmutableCollections$SetN"), accessFlags := 24, slot := 6, constantValue := 0 }, { name := "EMPTY_MAP", type := (.object "java/util/ImmutableCollections$MapN"), accessFlags := 24, slot := 7, constantValue := 0 }, { name := "EXPAND_FACTOR", type := .int, accessFlags := 24, slot := 8, constantValue := 0 }, { name := "$assertionsDisabled", type := .boolean, accessFlags := 4120, slot := 9, constantValue := 0 }]
  methods := #[k19m0]
  instanceTypes := #[]
  staticTypes := #[.long, .boolean, (.array (.object "java/lang/Object")), (.object "java/lang/Object"), (.object "java/util/ImmutableCollections$ListN"), (.object "java/util/ImmutableCollections$ListN"), (.object "java/util/ImmutableCollections$SetN"), (.object "java/util/ImmutableCollections$MapN"), .int, .boolean]
  resolved := Array.replicate 213 none
  statics := some 2 }

def pool20 : Array CpInfo := pool [(2, .class_ 4), (1, u "java/lang/Object"), (2, .fieldref 8 9), (0, .class_ 10), (0, .nameAndType 11 12), (0, u "com/example/harborspread/harborspread/SpreadContract$Leg"), (0, u "product"), (0, u "Lcom/example/harborspread/harborspread/Product;"), (2, u "rollsOnExpiry"), (0, u "Z"), (34, u "()Lcom/example/harborspread/harborspread/Product;"), (13, .class_ 66), (0, u "com/example/harborspread/harborspread/SpreadContract")] 3

def k20c0 : Code := { maxStack := 1, maxLocals := 1, code := prog_54_method_4_code, exceptionTable := #[], attributes := #[] }
def k20m0 : Method := { name := "product", desc := "()Lcom/example/harborspread/harborspread/Product;", sig := { parameters := [], returnType := some (.object "com/example/harborspread/harborspread/Product") }, accessFlags := 0, code := some k20c0 }
/-- com/example/harborspread/harborspread/SpreadContract$Leg -/
def k20 : Class := { plain "com/example/harborspread/harborspread/SpreadContract$Leg" (some 0) with
  accessFlags := 48
  interfaces := #[]
  cf := some (fileOf pool20 8 #[.nestHost 65] #[{ accessFlags := 0, nameIndex := 11, descriptorIndex := 51, attributes := #[] }] 48 2 #[] #[{ accessFlags := 18, nameIndex := 11, descriptorIndex := 12, attributes := #[] }, { accessFlags := 18, nameIndex := 15, descriptorIndex := 16, attributes := #[] }])
  fields := #[{ name := "product", type := (.object "com/example/harborspread/harborspread/Product"), accessFlags := 18, slot := 0, constantValue := 0 }, { name := "rollsOnExpiry", type := .boolean, accessFlags := 18, slot := 1, constantValue := 0 }]
  methods := #[k20m0]
  instanceTypes := #[(.object "com/example/harborspread/harborspread/Product"), .boolean]
  staticTypes := #[]
  resolved := Array.replicate 70 none
  statics := none }

def pool21 : Array CpInfo := pool [(2, .class_ 4), (1, u "java/util/ImmutableCollections$AbstractImmutableList"), (3, .class_ 10), (1, u "java/util/ImmutableCollections$ListN"), (0, u "elements"), (0, u "[Ljava/lang/Object;"), (2, u "allowNulls"), (0, u "Z"), (42, .class_ 60), (0, u "java/io/Serializable"), (53, .class_ 115), (0, u "java/util/ImmutableCollections")] 3

/-- java/util/ImmutableCollections$ListN -/
def k21 : Class := { plain "java/util/ImmutableCollections$ListN" (some 16) with
  accessFlags := 48
  interfaces := #[4]
  cf := some (fileOf pool21 8 #[.nestHost 114] #[] 48 2 #[59] #[{ accessFlags := 18, nameIndex := 11, descriptorIndex := 12, attributes := #[] }, { accessFlags := 18, nameIndex := 15, descriptorIndex := 16, attributes := #[] }])
  fields := #[{ name := "elements", type := (.array (.object "java/lang/Object")), accessFlags := 18, slot := 0, constantValue := 0 }, { name := "allowNulls", type := .boolean, accessFlags := 18, slot := 1, constantValue := 0 }]
  methods := #[]
  instanceTypes := #[(.array (.object "java/lang/Object")), .boolean]
  staticTypes := #[]
  resolved := Array.replicate 119 none
  statics := none }

def pool22 : Array CpInfo := pool [(1, u "java/lang/Cloneable"), (0, .class_ 1), (0, u "java/lang/Object"), (0, .class_ 3)] 3

/-- java/lang/Cloneable -/
def k22 : Class := { plain "java/lang/Cloneable" (some 0) with
  accessFlags := 1537
  interfaces := #[]
  cf := some (fileOf pool22 2 #[] #[] 1537 4 #[] #[])
  fields := #[]
  methods := #[]
  instanceTypes := #[]
  staticTypes := #[]
  resolved := Array.replicate 8 none
  statics := none }

/-- the primitive byte -/
def k23 : Class := { plain "byte" none with kind := .primitive 'B', accessFlags := 0x411 }
/-- [B -/
def k24 : Class := { plain "[B" (some 0) with kind := .array 23 .byte, interfaces := #[22, 4], accessFlags := 1041 }

/-- the primitive int -/
def k25 : Class := { plain "int" none with kind := .primitive 'I', accessFlags := 0x411 }
/-- [I -/
def k26 : Class := { plain "[I" (some 0) with kind := .array 25 .int, interfaces := #[22, 4], accessFlags := 1041 }

def heap : Heap := #[{ cls := 7, slots := #[.ref 12, .ref 13, .ref 14, .null, .null], vm := .statics 7 },
  { cls := 8, slots := #[.ref 3, .ref 4, .ref 5, .null, .null, .null], vm := .statics 8 },
  { cls := 19, slots := #[.long 0, .int 0, .null, .ref 15, .ref 16, .null, .null, .null, .int 0, .int 1], vm := .statics 19 },
  { cls := 8, slots := #[.null, .int 0, .int 0, .null, .null, .int 0, .null], vm := .none },
  { cls := 8, slots := #[.null, .int 0, .int 0, .null, .null, .int 0, .null], vm := .none },
  { cls := 8, slots := #[.null, .int 0, .int 0, .null, .null, .int 0, .null], vm := .none },
  { cls := 20, slots := #[.ref 3, .int 0], vm := .none },
  { cls := 20, slots := #[.ref 4, .int 0], vm := .none },
  { cls := 20, slots := #[.ref 3, .int 0], vm := .none },
  { cls := 20, slots := #[.ref 5, .int 0], vm := .none },
  { cls := 20, slots := #[.ref 3, .int 0], vm := .none },
  { cls := 20, slots := #[.ref 5, .int 0], vm := .none },
  { cls := 7, slots := #[.null, .int 0, .int 0, .int 0, .null, .null, .null, .ref 6, .ref 7], vm := .none },
  { cls := 7, slots := #[.null, .int 0, .int 0, .int 0, .null, .null, .null, .ref 8, .ref 9], vm := .none },
  { cls := 7, slots := #[.null, .int 0, .int 0, .int 0, .null, .null, .null, .ref 10, .ref 11], vm := .none },
  { cls := 0, slots := #[], vm := .none },
  { cls := 21, slots := #[.null, .int 0], vm := .none }]
def classes : Array Class := #[k0, k1, k2, k3, k4, k5, k6, k7, k8, k9, k10, k11, k12, k13, k14, k15, k16, k17, k18, k19, k20, k21, k22, k23, k24, k25, k26]
def interned : List (Array UInt16 × Addr) := []
def slotsUsed : Nat := 83
def theMethod : MethodId := ⟨1, 1⟩
def args0 : Array Value := #[.int 5]
def aboutOver (below : List Frame) : State where
  vm := { classes := classes, interned := interned.toArray }
  heap := heap
  slotsUsed := slotsUsed
  threads := #[{ frames := .invoking theMethod args0 :: below }]
def below0 : List Frame := [.native { method := ⟨0, 0⟩, args := #[] }]
def about1 : State := aboutOver below0
def p0 : Program := .bare "" "" ""
def e0 : Env := launch0.env 0 0 0
theorem w_frames : about1.frames = Frame.invoking theMethod args0 :: below0 := rfl
set_option maxRecDepth 65536 in
theorem w_args : argsFit about1.vm theMethod args0 = true := by decide +kernel
set_option maxRecDepth 65536 in
theorem w_heap : heapFits about1 = true := by decide +kernel
set_option maxRecDepth 65536 in
theorem w_runnable : about1.curStatus? = some .runnable := by decide +kernel
set_option maxRecDepth 65536 in
theorem w_alone : about1.alone = true := by decide +kernel
set_option maxRecDepth 65536 in
theorem w_named : about1.methodNamed? x = some theMethod := by decide +kernel
set_option maxRecDepth 65536 in
theorem w_hears : about1.hears theMethod below0 = true := by decide +kernel
set_option maxRecDepth 65536 in
theorem w_ripe : about1.ripe theMethod args0 below0 = true := by decide +kernel
theorem w_running : about1.status = .running := rfl
set_option maxRecDepth 65536 in
theorem w_room : about1.hasRoom e0.platform room_1 = true :=
  launch0.hasRoom_least _ room_1 (by decide +kernel) (by decide +kernel) (by decide +kernel) (by decide +kernel) (by decide +kernel) (by decide +kernel)
theorem allAtoms_all (ts : List Jvm.Cond) (a : Array Jvm.Value) (st : Jvm.State) : (allAtoms ts).before a st = ts.all (fun c => c.before a st) := by
  induction ts with
  | nil => rfl
  | cons c t ih =>
    show (Jvm.Cond.and c (allAtoms t)).before a st = _
    rw [Jvm.Cond.before_and, ih, List.all_cons]
def words1 : List Jvm.Cond := Jvm.Cond.code x code maxLocals ret :: tables_1
/-- a 'code' word, met by the world's own term for the bytes: nothing is compared byte by byte -/
theorem code_word {y : MethodName} {bytes : ByteArray} {mx : Nat} {rt : Option FieldType} {a : Array Value} {s : State} {m : MethodId} {meth : Method} {c : Code} (h1 : s.methodNamed? y = some m) (h2 : s.vm.method? m = some meth) (h3 : meth.code = some c) (h4 : c.code = bytes)
    (h5 : (c.maxLocals == mx && c.exceptionTable.isEmpty && decide (c.maxStack ≤ mostOperands) && decide (meth.sig.returnType = rt) && !meth.locks && decide (parseMethodDescriptor y.desc = some meth.sig)) = true) : (Jvm.Cond.code y bytes mx rt).before a s = true := by
  simp only [Bool.and_eq_true, beq_iff_eq, Bool.not_eq_true', decide_eq_true_eq] at h5
  obtain ⟨⟨⟨⟨⟨g1, g2⟩, g3⟩, g4⟩, g5⟩, g6⟩ := h5
  simp [Cond.before, Cond.holds, Cond.value, h1, h2, h3, h4, g1, g2, g3, g4, g5, g6]
def isCode : Jvm.Cond → Bool
  | .code _ _ _ _ => true
  | _ => false
theorem all_split {L : List Jvm.Cond} {P : Jvm.Cond → Bool} (h1 : L.all (fun c => isCode c || P c) = true) (h2 : ∀ c ∈ L.filter isCode, P c = true) : L.all P = true := by
  refine List.all_eq_true.mpr fun c hc => ?_
  have h := List.all_eq_true.mp h1 c hc
  rcases Bool.eq_false_or_eq_true (isCode c) with hi | hi
  · exact h2 c (List.mem_filter.mpr ⟨hc, hi⟩)
  · simpa [hi] using h
set_option maxRecDepth 65536 in
theorem w_c0 : (Jvm.Cond.code x code maxLocals ret).before args0 about1 = true := code_word (m := ⟨1, 1⟩) (meth := k1m1) (c := k1c1) (by decide +kernel) rfl rfl rfl (by decide +kernel)
set_option maxRecDepth 65536 in
theorem w_c1 : (Jvm.Cond.code ({ cls := "com/example/harborspread/harborspread/SpreadContract", name := "legs", desc := "()Ljava/util/List;" } : Jvm.MethodName) prog_53_method_10_code (1 : Nat) (Option.some (Jvm.ClassFile.FieldType.object "java/util/List"))).before args0 about1 = true := code_word (m := ⟨7, 2⟩) (meth := k7m2) (c := k7c2) (by decide +kernel) rfl rfl rfl (by decide +kernel)
set_option maxRecDepth 65536 in
theorem w_c2 : (Jvm.Cond.code ({ cls := "java/util/List", name := "of", desc := "(Ljava/lang/Object;Ljava/lang/Object;)Ljava/util/List;" } : Jvm.MethodName) jdk_40_method_38_code (2 : Nat) (Option.some (Jvm.ClassFile.FieldType.object "java/util/List"))).before args0 about1 = true := code_word (m := ⟨12, 2⟩) (meth := k12m2) (c := k12c2) (by decide +kernel) rfl rfl rfl (by decide +kernel)
set_option maxRecDepth 65536 in
theorem w_c3 : (Jvm.Cond.code ({ cls := "java/util/ImmutableCollections$List12", name := "<init>", desc := "(Ljava/lang/Object;Ljava/lang/Object;)V" } : Jvm.MethodName) jdk_44_method_2_code (3 : Nat) (Option.none : Option Jvm.ClassFile.FieldType)).before args0 about1 = true := code_word (m := ⟨17, 0⟩) (meth := k17m0) (c := k17c0) (by decide +kernel) rfl rfl rfl (by decide +kernel)
set_option maxRecDepth 65536 in
theorem w_c4 : (Jvm.Cond.code ({ cls := "java/util/ImmutableCollections$AbstractImmutableList", name := "<init>", desc := "()V" } : Jvm.MethodName) jdk_46_method_1_code (1 : Nat) (Option.none : Option Jvm.ClassFile.FieldType)).before args0 about1 = true := code_word (m := ⟨16, 0⟩) (meth := k16m0) (c := k16c0) (by decide +kernel) rfl rfl rfl (by decide +kernel)
set_option maxRecDepth 65536 in
theorem w_c5 : (Jvm.Cond.code ({ cls := "java/util/ImmutableCollections$AbstractImmutableCollection", name := "<init>", desc := "()V" } : Jvm.MethodName) jdk_47_method_1_code (1 : Nat) (Option.none : Option Jvm.ClassFile.FieldType)).before args0 about1 = true := code_word (m := ⟨14, 0⟩) (meth := k14m0) (c := k14c0) (by decide +kernel) rfl rfl rfl (by decide +kernel)
set_option maxRecDepth 65536 in
theorem w_c6 : (Jvm.Cond.code ({ cls := "java/util/AbstractCollection", name := "<init>", desc := "()V" } : Jvm.MethodName) jdk_22_method_1_code (1 : Nat) (Option.none : Option Jvm.ClassFile.FieldType)).before args0 about1 = true := code_word (m := ⟨13, 0⟩) (meth := k13m0) (c := k13c0) (by decide +kernel) rfl rfl rfl (by decide +kernel)
set_option maxRecDepth 65536 in
theorem w_c7 : (Jvm.Cond.code ({ cls := "java/lang/Object", name := "<init>", desc := "()V" } : Jvm.MethodName) object_method_1_code (1 : Nat) (Option.none : Option Jvm.ClassFile.FieldType)).before args0 about1 = true := code_word (m := ⟨0, 0⟩) (meth := k0m0) (c := k0c0) (by decide +kernel) rfl rfl rfl (by decide +kernel)
set_option maxRecDepth 65536 in
theorem w_c8 : (Jvm.Cond.code ({ cls := "java/util/Objects", name := "requireNonNull", desc := "(Ljava/lang/Object;)Ljava/lang/Object;" } : Jvm.MethodName) jdk_31_method_10_code (1 : Nat) (Option.some (Jvm.ClassFile.FieldType.object "java/lang/Object"))).before args0 about1 = true := code_word (m := ⟨18, 1⟩) (meth := k18m1) (c := k18c1) (by decide +kernel) rfl rfl rfl (by decide +kernel)
set_option maxRecDepth 65536 in
theorem w_c9 : (Jvm.Cond.code ({ cls := "java/util/ImmutableCollections$List12", name := "size", desc := "()I" } : Jvm.MethodName) jdk_44_method_3_code (1 : Nat) (Option.some Jvm.ClassFile.FieldType.int)).before args0 about1 = true := code_word (m := ⟨17, 1⟩) (meth := k17m1) (c := k17c1) (by decide +kernel) rfl rfl rfl (by decide +kernel)
set_option maxRecDepth 65536 in
theorem w_c10 : (Jvm.Cond.code ({ cls := "java/util/ImmutableCollections$List12", name := "get", desc := "(I)Ljava/lang/Object;" } : Jvm.MethodName) jdk_44_method_5_code (2 : Nat) (Option.some (Jvm.ClassFile.FieldType.object "java/lang/Object"))).before args0 about1 = true := code_word (m := ⟨17, 2⟩) (meth := k17m2) (c := k17c2) (by decide +kernel) rfl rfl rfl (by decide +kernel)
set_option maxRecDepth 65536 in
theorem w_c11 : (Jvm.Cond.code ({ cls := "com/example/harborspread/harborspread/SpreadContract", name := "first", desc := "()Lcom/example/harborspread/harborspread/SpreadContract$Leg;" } : Jvm.MethodName) prog_53_method_8_code (1 : Nat) (Option.some (Jvm.ClassFile.FieldType.object "com/example/harborspread/harborspread/SpreadContract$Leg"))).before args0 about1 = true := code_word (m := ⟨7, 0⟩) (meth := k7m0) (c := k7c0) (by decide +kernel) rfl rfl rfl (by decide +kernel)
set_option maxRecDepth 65536 in
theorem w_c12 : (Jvm.Cond.code ({ cls := "com/example/harborspread/harborspread/SpreadContract", name := "second", desc := "()Lcom/example/harborspread/harborspread/SpreadContract$Leg;" } : Jvm.MethodName) prog_53_method_9_code (1 : Nat) (Option.some (Jvm.ClassFile.FieldType.object "com/example/harborspread/harborspread/SpreadContract$Leg"))).before args0 about1 = true := code_word (m := ⟨7, 1⟩) (meth := k7m1) (c := k7c1) (by decide +kernel) rfl rfl rfl (by decide +kernel)
set_option maxRecDepth 65536 in
theorem w_c13 : (Jvm.Cond.code ({ cls := "com/example/harborspread/harborspread/SpreadContract$Leg", name := "product", desc := "()Lcom/example/harborspread/harborspread/Product;" } : Jvm.MethodName) prog_54_method_4_code (1 : Nat) (Option.some (Jvm.ClassFile.FieldType.object "com/example/harborspread/harborspread/Product"))).before args0 about1 = true := code_word (m := ⟨20, 0⟩) (meth := k20m0) (c := k20c0) (by decide +kernel) rfl rfl rfl (by decide +kernel)
def codes1 : List Jvm.Cond := [Jvm.Cond.code x code maxLocals ret, Jvm.Cond.code ({ cls := "com/example/harborspread/harborspread/SpreadContract", name := "legs", desc := "()Ljava/util/List;" } : Jvm.MethodName) prog_53_method_10_code (1 : Nat) (Option.some (Jvm.ClassFile.FieldType.object "java/util/List")), Jvm.Cond.code ({ cls := "java/util/List", name := "of", desc := "(Ljava/lang/Object;Ljava/lang/Object;)Ljava/util/List;" } : Jvm.MethodName) jdk_40_method_38_code (2 : Nat) (Option.some (Jvm.ClassFile.FieldType.object "java/util/List")), Jvm.Cond.code ({ cls := "java/util/ImmutableCollections$List12", name := "<init>", desc := "(Ljava/lang/Object;Ljava/lang/Object;)V" } : Jvm.MethodName) jdk_44_method_2_code (3 : Nat) (Option.none : Option Jvm.ClassFile.FieldType), Jvm.Cond.code ({ cls := "java/util/ImmutableCollections$AbstractImmutableList", name := "<init>", desc := "()V" } : Jvm.MethodName) jdk_46_method_1_code (1 : Nat) (Option.none : Option Jvm.ClassFile.FieldType), Jvm.Cond.code ({ cls := "java/util/ImmutableCollections$AbstractImmutableCollection", name := "<init>", desc := "()V" } : Jvm.MethodName) jdk_47_method_1_code (1 : Nat) (Option.none : Option Jvm.ClassFile.FieldType), Jvm.Cond.code ({ cls := "java/util/AbstractCollection", name := "<init>", desc := "()V" } : Jvm.MethodName) jdk_22_method_1_code (1 : Nat) (Option.none : Option Jvm.ClassFile.FieldType), Jvm.Cond.code ({ cls := "java/lang/Object", name := "<init>", desc := "()V" } : Jvm.MethodName) object_method_1_code (1 : Nat) (Option.none : Option Jvm.ClassFile.FieldType), Jvm.Cond.code ({ cls := "java/util/Objects", name := "requireNonNull", desc := "(Ljava/lang/Object;)Ljava/lang/Object;" } : Jvm.MethodName) jdk_31_method_10_code (1 : Nat) (Option.some (Jvm.ClassFile.FieldType.object "java/lang/Object")), Jvm.Cond.code ({ cls := "java/util/ImmutableCollections$List12", name := "size", desc := "()I" } : Jvm.MethodName) jdk_44_method_3_code (1 : Nat) (Option.some Jvm.ClassFile.FieldType.int), Jvm.Cond.code ({ cls := "java/util/ImmutableCollections$List12", name := "get", desc := "(I)Ljava/lang/Object;" } : Jvm.MethodName) jdk_44_method_5_code (2 : Nat) (Option.some (Jvm.ClassFile.FieldType.object "java/lang/Object")), Jvm.Cond.code ({ cls := "com/example/harborspread/harborspread/SpreadContract", name := "first", desc := "()Lcom/example/harborspread/harborspread/SpreadContract$Leg;" } : Jvm.MethodName) prog_53_method_8_code (1 : Nat) (Option.some (Jvm.ClassFile.FieldType.object "com/example/harborspread/harborspread/SpreadContract$Leg")), Jvm.Cond.code ({ cls := "com/example/harborspread/harborspread/SpreadContract", name := "second", desc := "()Lcom/example/harborspread/harborspread/SpreadContract$Leg;" } : Jvm.MethodName) prog_53_method_9_code (1 : Nat) (Option.some (Jvm.ClassFile.FieldType.object "com/example/harborspread/harborspread/SpreadContract$Leg")), Jvm.Cond.code ({ cls := "com/example/harborspread/harborspread/SpreadContract$Leg", name := "product", desc := "()Lcom/example/harborspread/harborspread/Product;" } : Jvm.MethodName) prog_54_method_4_code (1 : Nat) (Option.some (Jvm.ClassFile.FieldType.object "com/example/harborspread/harborspread/Product"))]
set_option maxRecDepth 65536 in
theorem codes_eq : words1.filter isCode = codes1 := rfl
theorem w_codes : ∀ c ∈ words1.filter isCode, c.before args0 about1 = true := by
  rw [codes_eq]
  intro c hc
  simp only [codes1, List.mem_cons, List.not_mem_nil, or_false] at hc
  rcases hc with rfl | rfl | rfl | rfl | rfl | rfl | rfl | rfl | rfl | rfl | rfl | rfl | rfl | rfl
  · exact w_c0
  · exact w_c1
  · exact w_c2
  · exact w_c3
  · exact w_c4
  · exact w_c5
  · exact w_c6
  · exact w_c7
  · exact w_c8
  · exact w_c9
  · exact w_c10
  · exact w_c11
  · exact w_c12
  · exact w_c13
set_option maxRecDepth 65536 in
theorem w_t1 : (words1.take 24).all (fun c => isCode c || c.before args0 about1) = true := by decide +kernel
set_option maxRecDepth 65536 in
theorem w_t2 : ((words1.drop 24).take 24).all (fun c => isCode c || c.before args0 about1) = true := by decide +kernel
set_option maxRecDepth 65536 in
theorem w_t3 : (((words1.drop 24).drop 24).take 24).all (fun c => isCode c || c.before args0 about1) = true := by decide +kernel
set_option maxRecDepth 65536 in
theorem w_t4 : ((((words1.drop 24).drop 24).drop 24).take 24).all (fun c => isCode c || c.before args0 about1) = true := by decide +kernel
set_option maxRecDepth 65536 in
theorem w_t5 : ((((words1.drop 24).drop 24).drop 24).drop 24).all (fun c => isCode c || c.before args0 about1) = true := by decide +kernel
theorem w_tables : (allAtoms (Jvm.Cond.code x code maxLocals ret :: tables_1)).before args0 about1 = true := by
  rw [allAtoms_all]
  show words1.all (fun c => c.before args0 about1) = true
  refine all_split ?_ w_codes
  rw [← List.take_append_drop 24 words1, List.all_append, w_t1, ← List.take_append_drop 24 (words1.drop 24), List.all_append, w_t2, ← List.take_append_drop 24 ((words1.drop 24).drop 24), List.all_append, w_t3, ← List.take_append_drop 24 (((words1.drop 24).drop 24).drop 24), List.all_append, w_t4, w_t5]
  rfl
set_option maxRecDepth 65536 in
theorem w_rest : rest_1_c.before args0 about1 = true := by decide +kernel
set_option maxRecDepth 65536 in
theorem w_case : (Jvm.Cond.and given_1 narrow_1).before args0 about1 = true := by decide +kernel
theorem w_applies : (headSpec (Jvm.Cond.code x code maxLocals ret :: tables_1) room_1).applies x e0.platform about1 = true :=
  (Spec.applies_iff w_frames).mpr ⟨w_running, w_runnable, w_alone, w_named, w_hears, w_ripe, w_room, w_tables⟩
theorem atStart : AtStart classFile x code maxLocals ret World_1 tables_1 room_1 Calls_1 rest_1 Pre_1 launch0 p0 e0 about1 theMethod args0 below0 :=
  ⟨lists_1, trivial, launch0.admits_env _ _ _, launch0.least_env, fairChoices_fair.cas, fairChoices_fair.clock, w_frames, w_args, w_heap, w_applies, trivial, w_rest, w_case⟩
end start1
theorem witness_1 : WitnessClaimed_1 := ⟨start1.p0, start1.e0, start1.about1, start1.theMethod, start1.args0, start1.below0, start1.atStart⟩
end Jvm.Pilot.@@N@@
