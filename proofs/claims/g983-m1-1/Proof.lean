import JvmDerived
import JvmDerived.Pilot.@@N@@Statement
import JvmDerived.Pilot.@@N@@Code
set_option linter.unusedVariables false
set_option linter.unusedSimpArgs false
@@BLOCK:NumsL.lean.txt@@
namespace Jvm.Pilot.@@N@@
open Jvm Jvm.ClassFile Sem Op Lib Jvm.Free Jvm.Stand Jvm.LawKit Jvm.RoadKit Bundle Jvm.Pilot.@@N@@.Jvm.D
section Own
variable {p : Program} {l : Launch} {e : Env} {R : Room} {s : State} {m : MethodId} {args : Array Value} {below : List Frame} {meth : Method} {c : Code} {T : State} {locs : List Loc} {cells slots : Nat} {Z : State} {a0 : Array Value} {h : Heap} {Q : Option Value → Heap → List Loc → Prop} {kc ks : Nat} {P : State → Outcome → Prop}
/-- from s₀ the run comes to an end at which P holds -/
def Go (p : Program) (e : Env) (below : List Frame) (P : State → Outcome → Prop) (s₀ : State) : Prop := ∃ s₂ o, Steps p.tables e below s₀ s₂ ∧ P s₂ o
/-- the method's end: Q holds of what it returns and leaves -/
def EndN (below : List Frame) (s : State) (Q : Option Value → Heap → List Loc → Prop) (kc ks : Nat) (s₂ : State) (o : Outcome) : Prop := s₂.status = .running ∧ Ended s₂ below o ∧ ∃ v L, o = .returned v ∧ Q v s₂.heap L ∧ FrameEnd s o s₂ L kc ks
theorem Go.of {P : State → Outcome → Prop} {s₀ s₁ : State} (G : Go p e below P s₁) (f : ∀ t, Steps p.tables e below s₁ t → Steps p.tables e below s₀ t) : Go p e below P s₀ := by
  obtain ⟨a, b, c1, d⟩ := G; exact ⟨a, b, f _ c1, d⟩
theorem Go.ret (X : Stand p l e R s m args below meth c T locs cells slots) (hx : p.tables.exec = Jvm.exec) (hlk : meth.locks = false) {pc : Nat} {Ls : Array Slot} {w : Value} {t : FieldType} {i : Instr} {rest : List Value} (hret : meth.sig.returnType = some t) (hd : decode c.code pc = .ok (i, 1)) (hn : narrow t w = w)
    (hi : (i = .ireturn ∧ (t = .int ∨ t = .boolean ∨ t = .byte ∨ t = .char ∨ t = .short) ∧ ∃ z, w = .int z) ∨ (i = .lreturn ∧ t = .long ∧ ∃ z, w = .long z) ∨ (i = .dreturn ∧ t = .double ∧ ∃ z, w = .double z) ∨ (i = .freturn ∧ t = .float ∧ ∃ z, w = .float z) ∨ (i = .areturn ∧ t.isReference = true ∧ w.isRef = true))
    (hc : cells ≤ kc) (hs : slots ≤ ks) (hQ : Q (some w) T.heap locs) : Go p e below (EndN below s Q kc ks) (T.setTop (mkF m pc Ls (w :: rest))) := by
  obtain ⟨fs, hr, hrun, hended, hW, hsame⟩ := X.leave (v := some w) (fun h => by rw [hret] at h; cases h) hlk
  exact ⟨_, _, retOut X hx hret hn hi hd hr, hrun, hended, _, _, rfl, hQ, ⟨_, rfl⟩, hW, hsame.mono hc hs⟩
theorem Go.retV (X : Stand p l e R s m args below meth c T locs cells slots) (hx : p.tables.exec = Jvm.exec) (hlk : meth.locks = false) {pc : Nat} {Ls : Array Slot} (hret : meth.sig.returnType = none) (hd : decode c.code pc = .ok (.return_, 1))
    (hc : cells ≤ kc) (hs : slots ≤ ks) (hQ : Q none T.heap locs) : Go p e below (EndN below s Q kc ks) (T.setTop (mkF m pc Ls [])) := by
  obtain ⟨fs, hr, hrun, hended, hW, hsame⟩ := X.leave (v := none) (fun _ => rfl) hlk
  exact ⟨_, _, X.returnOut hx hret hd hr, hrun, hended, _, _, rfl, hQ, ⟨_, rfl⟩, hW, hsame.mono hc hs⟩
theorem Go.retI (X : Stand p l e R s m args below meth c T locs cells slots) (hx : p.tables.exec = Jvm.exec) (hlk : meth.locks = false) {pc : Nat} {Ls : Array Slot} {z : Int32} {rest : List Value} (hret : meth.sig.returnType = some .int) (hd : decode c.code pc = .ok (.ireturn, 1))
    (hc : cells ≤ kc) (hs : slots ≤ ks) (hQ : Q (some (.int z)) T.heap locs) : Go p e below (EndN below s Q kc ks) (T.setTop (mkF m pc Ls (.int z :: rest))) :=
  Go.ret X hx hlk hret hd rfl (Or.inl ⟨rfl, Or.inl rfl, z, rfl⟩) hc hs hQ
theorem Go.retL (X : Stand p l e R s m args below meth c T locs cells slots) (hx : p.tables.exec = Jvm.exec) (hlk : meth.locks = false) {pc : Nat} {Ls : Array Slot} {z : Int64} {rest : List Value} (hret : meth.sig.returnType = some .long) (hd : decode c.code pc = .ok (.lreturn, 1))
    (hc : cells ≤ kc) (hs : slots ≤ ks) (hQ : Q (some (.long z)) T.heap locs) : Go p e below (EndN below s Q kc ks) (T.setTop (mkF m pc Ls (.long z :: rest))) :=
  Go.ret X hx hlk hret hd rfl (Or.inr (Or.inl ⟨rfl, rfl, z, rfl⟩)) hc hs hQ
theorem Go.retA (X : Stand p l e R s m args below meth c T locs cells slots) (hx : p.tables.exec = Jvm.exec) (hlk : meth.locks = false) {pc : Nat} {Ls : Array Slot} {w : Value} {t : FieldType} {rest : List Value} (hret : meth.sig.returnType = some t) (ht : t.isReference = true) (hw : w.isRef = true) (hd : decode c.code pc = .ok (.areturn, 1))
    (hc : cells ≤ kc) (hs : slots ≤ ks) (hQ : Q (some w) T.heap locs) : Go p e below (EndN below s Q kc ks) (T.setTop (mkF m pc Ls (w :: rest))) :=
  Go.ret X hx hlk hret hd (by cases t <;> first | (cases ht; done) | rfl) (Or.inr (Or.inr (Or.inr (Or.inr ⟨rfl, ht, hw⟩)))) hc hs hQ
theorem Go.retZ (X : Stand p l e R s m args below meth c T locs cells slots) (hx : p.tables.exec = Jvm.exec) (hlk : meth.locks = false) {pc : Nat} {Ls : Array Slot} {z : Int32} {t : FieldType} {rest : List Value} (hret : meth.sig.returnType = some t) (ht : t = .boolean ∨ t = .byte ∨ t = .char ∨ t = .short) (hd : decode c.code pc = .ok (.ireturn, 1))
    (hc : cells ≤ kc) (hs : slots ≤ ks) (hQ : Q (some (.int (nar t z))) T.heap locs) : Go p e below (EndN below s Q kc ks) (T.setTop (mkF m pc Ls (.int z :: rest))) := by
  obtain ⟨fs, hr, hrun, hended, hW, hsame⟩ := X.leave (v := some (.int (nar t z))) (fun h => by rw [hret] at h; cases h) hlk
  exact ⟨_, _, retN X hx hret ht hd hr, hrun, hended, _, _, rfl, hQ, ⟨_, rfl⟩, hW, hsame.mono hc hs⟩

theorem g_iconst (X : Stand p l e R s m args below meth c T locs cells slots) (hx : p.tables.exec = Jvm.exec) {pc : Nat} (pc' : Nat) {Ls : Array Slot} {st : List Value} {i : Int} (v : Int32) (hd : decode c.code pc = .ok (.iconst i, 1)) (hv : Int32.ofInt i = v) (hp : pc + 1 = pc') (G : Go p e below P (T.setTop (mkF m pc' Ls (.int v :: st)))) : Go p e below P (T.setTop (mkF m pc Ls (st))) := by
  subst hp; exact Go.of G fun _ q => XT.iconstV X.here hx rfl v hd hv q
theorem g_bipush (X : Stand p l e R s m args below meth c T locs cells slots) (hx : p.tables.exec = Jvm.exec) {pc : Nat} (pc' : Nat) {Ls : Array Slot} {st : List Value} {i : Int} (v : Int32) (hd : decode c.code pc = .ok (.bipush i, 2)) (hv : (Int8.ofInt i).toInt32 = v) (hp : pc + 2 = pc') (G : Go p e below P (T.setTop (mkF m pc' Ls (.int v :: st)))) : Go p e below P (T.setTop (mkF m pc Ls (st))) := by
  subst hp; exact Go.of G fun _ q => XT.bipushV X.here hx rfl v hd hv q
theorem g_sipush (X : Stand p l e R s m args below meth c T locs cells slots) (hx : p.tables.exec = Jvm.exec) {pc : Nat} (pc' : Nat) {Ls : Array Slot} {st : List Value} {i : Int} (v : Int32) (hd : decode c.code pc = .ok (.sipush i, 3)) (hv : (Int16.ofInt i).toInt32 = v) (hp : pc + 3 = pc') (G : Go p e below P (T.setTop (mkF m pc' Ls (.int v :: st)))) : Go p e below P (T.setTop (mkF m pc Ls (st))) := by
  subst hp; exact Go.of G fun _ q => XT.sipushV X.here hx rfl v hd hv q
theorem g_lconst (X : Stand p l e R s m args below meth c T locs cells slots) (hx : p.tables.exec = Jvm.exec) {pc : Nat} (pc' : Nat) {Ls : Array Slot} {st : List Value} {i : Fin 2} (v : Int64) (hd : decode c.code pc = .ok (.lconst i, 1)) (hv : Int64.ofNat i = v) (hp : pc + 1 = pc') (G : Go p e below P (T.setTop (mkF m pc' Ls (.long v :: st)))) : Go p e below P (T.setTop (mkF m pc Ls (st))) := by
  subst hp; exact Go.of G fun _ q => XT.lconstV X.here hx rfl v hd hv q
theorem g_aconst_null (X : Stand p l e R s m args below meth c T locs cells slots) (hx : p.tables.exec = Jvm.exec) {pc : Nat} (pc' : Nat) {Ls : Array Slot} {st : List Value}  (hd : decode c.code pc = .ok (.aconst_null, 1))  (hp : pc + 1 = pc') (G : Go p e below P (T.setTop (mkF m pc' Ls (.null :: st)))) : Go p e below P (T.setTop (mkF m pc Ls (st))) := by
  subst hp; exact Go.of G fun _ q => XS.aconstNull X.here hx rfl hd q
theorem g_iload_n (X : Stand p l e R s m args below meth c T locs cells slots) (hx : p.tables.exec = Jvm.exec) {pc : Nat} (pc' : Nat) {Ls : Array Slot} {st : List Value} {i : Fin 4} (v : Int32) (hd : decode c.code pc = .ok (.iload_n i, 1)) (hv : Ls[i.val]? = some (.val (.int v))) (hp : pc + 1 = pc') (G : Go p e below P (T.setTop (mkF m pc' Ls (.int v :: st)))) : Go p e below P (T.setTop (mkF m pc Ls (st))) := by
  subst hp; exact Go.of G fun _ q => XS.iloadN X.here hx rfl hd hv q
theorem g_iload (X : Stand p l e R s m args below meth c T locs cells slots) (hx : p.tables.exec = Jvm.exec) {pc : Nat} (pc' : Nat) {Ls : Array Slot} {st : List Value} {i : Nat} (v : Int32) (hd : decode c.code pc = .ok (.iload i, 2)) (hv : Ls[i]? = some (.val (.int v))) (hp : pc + 2 = pc') (G : Go p e below P (T.setTop (mkF m pc' Ls (.int v :: st)))) : Go p e below P (T.setTop (mkF m pc Ls (st))) := by
  subst hp; exact Go.of G fun _ q => XS.iload X.here hx rfl hd hv q
theorem g_lload_n (X : Stand p l e R s m args below meth c T locs cells slots) (hx : p.tables.exec = Jvm.exec) {pc : Nat} (pc' : Nat) {Ls : Array Slot} {st : List Value} {i : Fin 4} (v : Int64) (hd : decode c.code pc = .ok (.lload_n i, 1)) (hv : Ls[i.val]? = some (.val (.long v))) (hp : pc + 1 = pc') (G : Go p e below P (T.setTop (mkF m pc' Ls (.long v :: st)))) : Go p e below P (T.setTop (mkF m pc Ls (st))) := by
  subst hp; exact Go.of G fun _ q => XT.lloadN X.here hx rfl hd hv q
theorem g_lload (X : Stand p l e R s m args below meth c T locs cells slots) (hx : p.tables.exec = Jvm.exec) {pc : Nat} (pc' : Nat) {Ls : Array Slot} {st : List Value} {i : Nat} (v : Int64) (hd : decode c.code pc = .ok (.lload i, 2)) (hv : Ls[i]? = some (.val (.long v))) (hp : pc + 2 = pc') (G : Go p e below P (T.setTop (mkF m pc' Ls (.long v :: st)))) : Go p e below P (T.setTop (mkF m pc Ls (st))) := by
  subst hp; exact Go.of G fun _ q => XT.lload X.here hx rfl hd hv q
theorem g_aload_n (X : Stand p l e R s m args below meth c T locs cells slots) (hx : p.tables.exec = Jvm.exec) {pc : Nat} (pc' : Nat) {Ls : Array Slot} {st : List Value} {i : Fin 4} (v : Value) (hd : decode c.code pc = .ok (.aload_n i, 1)) (hv : Ls[i.val]? = some (.val v)) (hr : v.isRef = true) (hp : pc + 1 = pc') (G : Go p e below P (T.setTop (mkF m pc' Ls (v :: st)))) : Go p e below P (T.setTop (mkF m pc Ls (st))) := by
  subst hp; exact Go.of G fun _ q => XS.aloadN X.here hx rfl hd hv hr q
theorem g_aload (X : Stand p l e R s m args below meth c T locs cells slots) (hx : p.tables.exec = Jvm.exec) {pc : Nat} (pc' : Nat) {Ls : Array Slot} {st : List Value} {i : Nat} (v : Value) (hd : decode c.code pc = .ok (.aload i, 2)) (hv : Ls[i]? = some (.val v)) (hr : v.isRef = true) (hp : pc + 2 = pc') (G : Go p e below P (T.setTop (mkF m pc' Ls (v :: st)))) : Go p e below P (T.setTop (mkF m pc Ls (st))) := by
  subst hp; exact Go.of G fun _ q => XS.aload X.here hx rfl hd hv hr q
theorem g_istore_n (X : Stand p l e R s m args below meth c T locs cells slots) (hx : p.tables.exec = Jvm.exec) {pc : Nat} (pc' : Nat) {Ls : Array Slot} {st : List Value} {i : Fin 4} {v : Int32} (Ls' : Array Slot) (hd : decode c.code pc = .ok (.istore_n i, 1)) (hv : storeLocals Ls i.val (.int v) = some Ls') (hp : pc + 1 = pc') (G : Go p e below P (T.setTop (mkF m pc' Ls' (st)))) : Go p e below P (T.setTop (mkF m pc Ls (.int v :: st))) := by
  subst hp; exact Go.of G fun _ q => XS.istoreN X.here hx rfl hd rfl hv q
theorem g_istore (X : Stand p l e R s m args below meth c T locs cells slots) (hx : p.tables.exec = Jvm.exec) {pc : Nat} (pc' : Nat) {Ls : Array Slot} {st : List Value} {i : Nat} {v : Int32} (Ls' : Array Slot) (hd : decode c.code pc = .ok (.istore i, 2)) (hv : storeLocals Ls i (.int v) = some Ls') (hp : pc + 2 = pc') (G : Go p e below P (T.setTop (mkF m pc' Ls' (st)))) : Go p e below P (T.setTop (mkF m pc Ls (.int v :: st))) := by
  subst hp; exact Go.of G fun _ q => XS.istore X.here hx rfl hd rfl hv q
theorem g_lstore_n (X : Stand p l e R s m args below meth c T locs cells slots) (hx : p.tables.exec = Jvm.exec) {pc : Nat} (pc' : Nat) {Ls : Array Slot} {st : List Value} {i : Fin 4} {v : Int64} (Ls' : Array Slot) (hd : decode c.code pc = .ok (.lstore_n i, 1)) (hv : storeLocals Ls i.val (.long v) = some Ls') (hp : pc + 1 = pc') (G : Go p e below P (T.setTop (mkF m pc' Ls' (st)))) : Go p e below P (T.setTop (mkF m pc Ls (.long v :: st))) := by
  subst hp; exact Go.of G fun _ q => XT.lstoreN X.here hx rfl hd rfl hv q
theorem g_lstore (X : Stand p l e R s m args below meth c T locs cells slots) (hx : p.tables.exec = Jvm.exec) {pc : Nat} (pc' : Nat) {Ls : Array Slot} {st : List Value} {i : Nat} {v : Int64} (Ls' : Array Slot) (hd : decode c.code pc = .ok (.lstore i, 2)) (hv : storeLocals Ls i (.long v) = some Ls') (hp : pc + 2 = pc') (G : Go p e below P (T.setTop (mkF m pc' Ls' (st)))) : Go p e below P (T.setTop (mkF m pc Ls (.long v :: st))) := by
  subst hp; exact Go.of G fun _ q => XT.lstore X.here hx rfl hd rfl hv q
theorem g_astore_n (X : Stand p l e R s m args below meth c T locs cells slots) (hx : p.tables.exec = Jvm.exec) {pc : Nat} (pc' : Nat) {Ls : Array Slot} {st : List Value} {i : Fin 4} {v : Value} (Ls' : Array Slot) (hd : decode c.code pc = .ok (.astore_n i, 1)) (hr : v.isRef = true) (hv : storeLocals Ls i.val v = some Ls') (hp : pc + 1 = pc') (G : Go p e below P (T.setTop (mkF m pc' Ls' (st)))) : Go p e below P (T.setTop (mkF m pc Ls (v :: st))) := by
  subst hp; exact Go.of G fun _ q => XS.astoreN X.here hx rfl hd rfl hr hv q
theorem g_astore (X : Stand p l e R s m args below meth c T locs cells slots) (hx : p.tables.exec = Jvm.exec) {pc : Nat} (pc' : Nat) {Ls : Array Slot} {st : List Value} {i : Nat} {v : Value} (Ls' : Array Slot) (hd : decode c.code pc = .ok (.astore i, 2)) (hr : v.isRef = true) (hv : storeLocals Ls i v = some Ls') (hp : pc + 2 = pc') (G : Go p e below P (T.setTop (mkF m pc' Ls' (st)))) : Go p e below P (T.setTop (mkF m pc Ls (v :: st))) := by
  subst hp; exact Go.of G fun _ q => XS.astore X.here hx rfl hd rfl hr hv q
theorem g_iinc (X : Stand p l e R s m args below meth c T locs cells slots) (hx : p.tables.exec = Jvm.exec) {pc : Nat} (pc' : Nat) {Ls : Array Slot} {st : List Value} {i : Nat} {k : Int} {x : Int32} (v : Int32) (Ls' : Array Slot) (hd : decode c.code pc = .ok (.iinc i k, 3)) (hk : Int32.ofInt k = v) (hv : Ls[i]? = some (.val (.int x))) (hl : storeLocals Ls i (.int (x + v)) = some Ls') (hp : pc + 3 = pc') (G : Go p e below P (T.setTop (mkF m pc' Ls' (st)))) : Go p e below P (T.setTop (mkF m pc Ls (st))) := by
  subst hp; exact Go.of G fun _ q => XT.iincV X.here hx rfl v hd hk hv hl q
theorem g_iadd (X : Stand p l e R s m args below meth c T locs cells slots) (hx : p.tables.exec = Jvm.exec) {pc : Nat} (pc' : Nat) {Ls : Array Slot} {st : List Value} {x y : Int32} (hd : decode c.code pc = .ok (.iadd, 1))  (hp : pc + 1 = pc') (G : Go p e below P (T.setTop (mkF m pc' Ls (.int (x + y) :: st)))) : Go p e below P (T.setTop (mkF m pc Ls (.int y :: .int x :: st))) := by
  subst hp; exact Go.of G fun _ q => XS.iadd X.here hx rfl hd rfl q
theorem g_isub (X : Stand p l e R s m args below meth c T locs cells slots) (hx : p.tables.exec = Jvm.exec) {pc : Nat} (pc' : Nat) {Ls : Array Slot} {st : List Value} {x y : Int32} (hd : decode c.code pc = .ok (.isub, 1))  (hp : pc + 1 = pc') (G : Go p e below P (T.setTop (mkF m pc' Ls (.int (x - y) :: st)))) : Go p e below P (T.setTop (mkF m pc Ls (.int y :: .int x :: st))) := by
  subst hp; exact Go.of G fun _ q => XS.isub X.here hx rfl hd rfl q
theorem g_iand (X : Stand p l e R s m args below meth c T locs cells slots) (hx : p.tables.exec = Jvm.exec) {pc : Nat} (pc' : Nat) {Ls : Array Slot} {st : List Value} {x y : Int32} (hd : decode c.code pc = .ok (.iand, 1))  (hp : pc + 1 = pc') (G : Go p e below P (T.setTop (mkF m pc' Ls (.int (x &&& y) :: st)))) : Go p e below P (T.setTop (mkF m pc Ls (.int y :: .int x :: st))) := by
  subst hp; exact Go.of G fun _ q => XS.iand X.here hx rfl hd rfl q
theorem g_imul (X : Stand p l e R s m args below meth c T locs cells slots) (hx : p.tables.exec = Jvm.exec) {pc : Nat} (pc' : Nat) {Ls : Array Slot} {st : List Value} {x y : Int32} (hd : decode c.code pc = .ok (.imul, 1))  (hp : pc + 1 = pc') (G : Go p e below P (T.setTop (mkF m pc' Ls (.int (x * y) :: st)))) : Go p e below P (T.setTop (mkF m pc Ls (.int y :: .int x :: st))) := by
  subst hp; exact Go.of G fun _ q => XS.imul X.here hx rfl hd rfl q
theorem g_ior (X : Stand p l e R s m args below meth c T locs cells slots) (hx : p.tables.exec = Jvm.exec) {pc : Nat} (pc' : Nat) {Ls : Array Slot} {st : List Value} {x y : Int32} (hd : decode c.code pc = .ok (.ior, 1))  (hp : pc + 1 = pc') (G : Go p e below P (T.setTop (mkF m pc' Ls (.int (x ||| y) :: st)))) : Go p e below P (T.setTop (mkF m pc Ls (.int y :: .int x :: st))) := by
  subst hp; exact Go.of G fun _ q => XT.ior X.here hx rfl hd rfl q
theorem g_ixor (X : Stand p l e R s m args below meth c T locs cells slots) (hx : p.tables.exec = Jvm.exec) {pc : Nat} (pc' : Nat) {Ls : Array Slot} {st : List Value} {x y : Int32} (hd : decode c.code pc = .ok (.ixor, 1))  (hp : pc + 1 = pc') (G : Go p e below P (T.setTop (mkF m pc' Ls (.int (x ^^^ y) :: st)))) : Go p e below P (T.setTop (mkF m pc Ls (.int y :: .int x :: st))) := by
  subst hp; exact Go.of G fun _ q => XT.ixor X.here hx rfl hd rfl q
theorem g_ishl (X : Stand p l e R s m args below meth c T locs cells slots) (hx : p.tables.exec = Jvm.exec) {pc : Nat} (pc' : Nat) {Ls : Array Slot} {st : List Value} {x y : Int32} (hd : decode c.code pc = .ok (.ishl, 1))  (hp : pc + 1 = pc') (G : Go p e below P (T.setTop (mkF m pc' Ls (.int (x <<< (y &&& 31)) :: st)))) : Go p e below P (T.setTop (mkF m pc Ls (.int y :: .int x :: st))) := by
  subst hp; exact Go.of G fun _ q => XT.ishl X.here hx rfl hd rfl q
theorem g_ishr (X : Stand p l e R s m args below meth c T locs cells slots) (hx : p.tables.exec = Jvm.exec) {pc : Nat} (pc' : Nat) {Ls : Array Slot} {st : List Value} {x y : Int32} (hd : decode c.code pc = .ok (.ishr, 1))  (hp : pc + 1 = pc') (G : Go p e below P (T.setTop (mkF m pc' Ls (.int (x >>> (y &&& 31)) :: st)))) : Go p e below P (T.setTop (mkF m pc Ls (.int y :: .int x :: st))) := by
  subst hp; exact Go.of G fun _ q => XT.ishr X.here hx rfl hd rfl q
theorem g_iushr (X : Stand p l e R s m args below meth c T locs cells slots) (hx : p.tables.exec = Jvm.exec) {pc : Nat} (pc' : Nat) {Ls : Array Slot} {st : List Value} {x y : Int32} (hd : decode c.code pc = .ok (.iushr, 1))  (hp : pc + 1 = pc') (G : Go p e below P (T.setTop (mkF m pc' Ls (.int (XT.ushr x y) :: st)))) : Go p e below P (T.setTop (mkF m pc Ls (.int y :: .int x :: st))) := by
  subst hp; exact Go.of G fun _ q => XT.iushr X.here hx rfl hd rfl q
theorem g_idiv (X : Stand p l e R s m args below meth c T locs cells slots) (hx : p.tables.exec = Jvm.exec) {pc : Nat} (pc' : Nat) {Ls : Array Slot} {st : List Value} {x y : Int32} (hd : decode c.code pc = .ok (.idiv, 1)) (hy : y ≠ 0) (hp : pc + 1 = pc') (G : Go p e below P (T.setTop (mkF m pc' Ls (.int (x / y) :: st)))) : Go p e below P (T.setTop (mkF m pc Ls (.int y :: .int x :: st))) := by
  subst hp; exact Go.of G fun _ q => XS.idiv X.here hx rfl hd rfl hy q
theorem g_irem (X : Stand p l e R s m args below meth c T locs cells slots) (hx : p.tables.exec = Jvm.exec) {pc : Nat} (pc' : Nat) {Ls : Array Slot} {st : List Value} {x y : Int32} (hd : decode c.code pc = .ok (.irem, 1)) (hy : y ≠ 0) (hp : pc + 1 = pc') (G : Go p e below P (T.setTop (mkF m pc' Ls (.int (x % y) :: st)))) : Go p e below P (T.setTop (mkF m pc Ls (.int y :: .int x :: st))) := by
  subst hp; exact Go.of G fun _ q => iremM X hx rfl hd rfl hy q
theorem g_ineg (X : Stand p l e R s m args below meth c T locs cells slots) (hx : p.tables.exec = Jvm.exec) {pc : Nat} (pc' : Nat) {Ls : Array Slot} {st : List Value} {x : Int32} (hd : decode c.code pc = .ok (.ineg, 1))  (hp : pc + 1 = pc') (G : Go p e below P (T.setTop (mkF m pc' Ls (.int (-x) :: st)))) : Go p e below P (T.setTop (mkF m pc Ls (.int x :: st))) := by
  subst hp; exact Go.of G fun _ q => XS.ineg X.here hx rfl hd rfl q
theorem g_ladd (X : Stand p l e R s m args below meth c T locs cells slots) (hx : p.tables.exec = Jvm.exec) {pc : Nat} (pc' : Nat) {Ls : Array Slot} {st : List Value} {x y : Int64} (hd : decode c.code pc = .ok (.ladd, 1))  (hp : pc + 1 = pc') (G : Go p e below P (T.setTop (mkF m pc' Ls (.long (x + y) :: st)))) : Go p e below P (T.setTop (mkF m pc Ls (.long y :: .long x :: st))) := by
  subst hp; exact Go.of G fun _ q => XT.ladd X.here hx rfl hd rfl q
theorem g_lsub (X : Stand p l e R s m args below meth c T locs cells slots) (hx : p.tables.exec = Jvm.exec) {pc : Nat} (pc' : Nat) {Ls : Array Slot} {st : List Value} {x y : Int64} (hd : decode c.code pc = .ok (.lsub, 1))  (hp : pc + 1 = pc') (G : Go p e below P (T.setTop (mkF m pc' Ls (.long (x - y) :: st)))) : Go p e below P (T.setTop (mkF m pc Ls (.long y :: .long x :: st))) := by
  subst hp; exact Go.of G fun _ q => XT.lsub X.here hx rfl hd rfl q
theorem g_lmul (X : Stand p l e R s m args below meth c T locs cells slots) (hx : p.tables.exec = Jvm.exec) {pc : Nat} (pc' : Nat) {Ls : Array Slot} {st : List Value} {x y : Int64} (hd : decode c.code pc = .ok (.lmul, 1))  (hp : pc + 1 = pc') (G : Go p e below P (T.setTop (mkF m pc' Ls (.long (x * y) :: st)))) : Go p e below P (T.setTop (mkF m pc Ls (.long y :: .long x :: st))) := by
  subst hp; exact Go.of G fun _ q => XT.lmul X.here hx rfl hd rfl q
theorem g_land (X : Stand p l e R s m args below meth c T locs cells slots) (hx : p.tables.exec = Jvm.exec) {pc : Nat} (pc' : Nat) {Ls : Array Slot} {st : List Value} {x y : Int64} (hd : decode c.code pc = .ok (.land, 1))  (hp : pc + 1 = pc') (G : Go p e below P (T.setTop (mkF m pc' Ls (.long (x &&& y) :: st)))) : Go p e below P (T.setTop (mkF m pc Ls (.long y :: .long x :: st))) := by
  subst hp; exact Go.of G fun _ q => XT.land X.here hx rfl hd rfl q
theorem g_lor (X : Stand p l e R s m args below meth c T locs cells slots) (hx : p.tables.exec = Jvm.exec) {pc : Nat} (pc' : Nat) {Ls : Array Slot} {st : List Value} {x y : Int64} (hd : decode c.code pc = .ok (.lor, 1))  (hp : pc + 1 = pc') (G : Go p e below P (T.setTop (mkF m pc' Ls (.long (x ||| y) :: st)))) : Go p e below P (T.setTop (mkF m pc Ls (.long y :: .long x :: st))) := by
  subst hp; exact Go.of G fun _ q => XT.lor X.here hx rfl hd rfl q
theorem g_lxor (X : Stand p l e R s m args below meth c T locs cells slots) (hx : p.tables.exec = Jvm.exec) {pc : Nat} (pc' : Nat) {Ls : Array Slot} {st : List Value} {x y : Int64} (hd : decode c.code pc = .ok (.lxor, 1))  (hp : pc + 1 = pc') (G : Go p e below P (T.setTop (mkF m pc' Ls (.long (x ^^^ y) :: st)))) : Go p e below P (T.setTop (mkF m pc Ls (.long y :: .long x :: st))) := by
  subst hp; exact Go.of G fun _ q => XT.lxor X.here hx rfl hd rfl q
theorem g_ldiv (X : Stand p l e R s m args below meth c T locs cells slots) (hx : p.tables.exec = Jvm.exec) {pc : Nat} (pc' : Nat) {Ls : Array Slot} {st : List Value} {x y : Int64} (hd : decode c.code pc = .ok (.ldiv, 1)) (hy : y ≠ 0) (hp : pc + 1 = pc') (G : Go p e below P (T.setTop (mkF m pc' Ls (.long (x / y) :: st)))) : Go p e below P (T.setTop (mkF m pc Ls (.long y :: .long x :: st))) := by
  subst hp; exact Go.of G fun _ q => XT.ldiv X.here hx rfl hd rfl hy q
theorem g_lrem (X : Stand p l e R s m args below meth c T locs cells slots) (hx : p.tables.exec = Jvm.exec) {pc : Nat} (pc' : Nat) {Ls : Array Slot} {st : List Value} {x y : Int64} (hd : decode c.code pc = .ok (.lrem, 1)) (hy : y ≠ 0) (hp : pc + 1 = pc') (G : Go p e below P (T.setTop (mkF m pc' Ls (.long (x % y) :: st)))) : Go p e below P (T.setTop (mkF m pc Ls (.long y :: .long x :: st))) := by
  subst hp; exact Go.of G fun _ q => XT.lrem X.here hx rfl hd rfl hy (by rw [Jvm.RoadKit.lrem_mod]; exact q)
theorem g_lneg (X : Stand p l e R s m args below meth c T locs cells slots) (hx : p.tables.exec = Jvm.exec) {pc : Nat} (pc' : Nat) {Ls : Array Slot} {st : List Value} {x : Int64} (hd : decode c.code pc = .ok (.lneg, 1))  (hp : pc + 1 = pc') (G : Go p e below P (T.setTop (mkF m pc' Ls (.long (-x) :: st)))) : Go p e below P (T.setTop (mkF m pc Ls (.long x :: st))) := by
  subst hp; exact Go.of G fun _ q => XT.lneg X.here hx rfl hd rfl q
theorem g_lshl (X : Stand p l e R s m args below meth c T locs cells slots) (hx : p.tables.exec = Jvm.exec) {pc : Nat} (pc' : Nat) {Ls : Array Slot} {st : List Value} {x : Int64} {y : Int32} (hd : decode c.code pc = .ok (.lshl, 1))  (hp : pc + 1 = pc') (G : Go p e below P (T.setTop (mkF m pc' Ls (.long (x <<< (y.toInt64 &&& 63)) :: st)))) : Go p e below P (T.setTop (mkF m pc Ls (.int y :: .long x :: st))) := by
  subst hp; exact Go.of G fun _ q => XT.lshl X.here hx rfl hd rfl q
theorem g_lshr (X : Stand p l e R s m args below meth c T locs cells slots) (hx : p.tables.exec = Jvm.exec) {pc : Nat} (pc' : Nat) {Ls : Array Slot} {st : List Value} {x : Int64} {y : Int32} (hd : decode c.code pc = .ok (.lshr, 1))  (hp : pc + 1 = pc') (G : Go p e below P (T.setTop (mkF m pc' Ls (.long (x >>> (y.toInt64 &&& 63)) :: st)))) : Go p e below P (T.setTop (mkF m pc Ls (.int y :: .long x :: st))) := by
  subst hp; exact Go.of G fun _ q => XT.lshr X.here hx rfl hd rfl q
theorem g_lushr (X : Stand p l e R s m args below meth c T locs cells slots) (hx : p.tables.exec = Jvm.exec) {pc : Nat} (pc' : Nat) {Ls : Array Slot} {st : List Value} {x : Int64} {y : Int32} (hd : decode c.code pc = .ok (.lushr, 1))  (hp : pc + 1 = pc') (G : Go p e below P (T.setTop (mkF m pc' Ls (.long (XT.ushrL x y) :: st)))) : Go p e below P (T.setTop (mkF m pc Ls (.int y :: .long x :: st))) := by
  subst hp; exact Go.of G fun _ q => XT.lushr X.here hx rfl hd rfl q
theorem g_lcmp (X : Stand p l e R s m args below meth c T locs cells slots) (hx : p.tables.exec = Jvm.exec) {pc : Nat} (pc' : Nat) {Ls : Array Slot} {st : List Value} {x y : Int64} (hd : decode c.code pc = .ok (.lcmp, 1))  (hp : pc + 1 = pc') (G : Go p e below P (T.setTop (mkF m pc' Ls (.int (XT.cmpL x y) :: st)))) : Go p e below P (T.setTop (mkF m pc Ls (.long y :: .long x :: st))) := by
  subst hp; exact Go.of G fun _ q => XT.lcmp X.here hx rfl hd rfl q
theorem g_i2l (X : Stand p l e R s m args below meth c T locs cells slots) (hx : p.tables.exec = Jvm.exec) {pc : Nat} (pc' : Nat) {Ls : Array Slot} {st : List Value} {x : Int32} (hd : decode c.code pc = .ok (.i2l, 1))  (hp : pc + 1 = pc') (G : Go p e below P (T.setTop (mkF m pc' Ls (.long (x.toInt64) :: st)))) : Go p e below P (T.setTop (mkF m pc Ls (.int x :: st))) := by
  subst hp; exact Go.of G fun _ q => XT.i2l X.here hx rfl hd rfl q
theorem g_l2i (X : Stand p l e R s m args below meth c T locs cells slots) (hx : p.tables.exec = Jvm.exec) {pc : Nat} (pc' : Nat) {Ls : Array Slot} {st : List Value} {x : Int64} (hd : decode c.code pc = .ok (.l2i, 1))  (hp : pc + 1 = pc') (G : Go p e below P (T.setTop (mkF m pc' Ls (.int (x.toInt32) :: st)))) : Go p e below P (T.setTop (mkF m pc Ls (.long x :: st))) := by
  subst hp; exact Go.of G fun _ q => XT.l2i X.here hx rfl hd rfl q
theorem g_i2b (X : Stand p l e R s m args below meth c T locs cells slots) (hx : p.tables.exec = Jvm.exec) {pc : Nat} (pc' : Nat) {Ls : Array Slot} {st : List Value} {x : Int32} (hd : decode c.code pc = .ok (.i2b, 1))  (hp : pc + 1 = pc') (G : Go p e below P (T.setTop (mkF m pc' Ls (.int (x.toInt8.toInt32) :: st)))) : Go p e below P (T.setTop (mkF m pc Ls (.int x :: st))) := by
  subst hp; exact Go.of G fun _ q => XT.i2b X.here hx rfl hd rfl q
theorem g_i2c (X : Stand p l e R s m args below meth c T locs cells slots) (hx : p.tables.exec = Jvm.exec) {pc : Nat} (pc' : Nat) {Ls : Array Slot} {st : List Value} {x : Int32} (hd : decode c.code pc = .ok (.i2c, 1))  (hp : pc + 1 = pc') (G : Go p e below P (T.setTop (mkF m pc' Ls (.int (x.toUInt32.toUInt16.toUInt32.toInt32) :: st)))) : Go p e below P (T.setTop (mkF m pc Ls (.int x :: st))) := by
  subst hp; exact Go.of G fun _ q => XT.i2c X.here hx rfl hd rfl q
theorem g_i2s (X : Stand p l e R s m args below meth c T locs cells slots) (hx : p.tables.exec = Jvm.exec) {pc : Nat} (pc' : Nat) {Ls : Array Slot} {st : List Value} {x : Int32} (hd : decode c.code pc = .ok (.i2s, 1))  (hp : pc + 1 = pc') (G : Go p e below P (T.setTop (mkF m pc' Ls (.int (x.toInt16.toInt32) :: st)))) : Go p e below P (T.setTop (mkF m pc Ls (.int x :: st))) := by
  subst hp; exact Go.of G fun _ q => XT.i2s X.here hx rfl hd rfl q
theorem g_dup (X : Stand p l e R s m args below meth c T locs cells slots) (hx : p.tables.exec = Jvm.exec) {pc : Nat} (pc' : Nat) {Ls : Array Slot} {st : List Value} {x : Value} (hd : decode c.code pc = .ok (.dup, 1)) (hc : x.category = 1) (hp : pc + 1 = pc') (G : Go p e below P (T.setTop (mkF m pc' Ls (x :: x :: st)))) : Go p e below P (T.setTop (mkF m pc Ls (x :: st))) := by
  subst hp; exact Go.of G fun _ q => XS.dup X.here hx rfl hd rfl hc q
theorem g_pop (X : Stand p l e R s m args below meth c T locs cells slots) (hx : p.tables.exec = Jvm.exec) {pc : Nat} (pc' : Nat) {Ls : Array Slot} {st : List Value} {x : Value} (hd : decode c.code pc = .ok (.pop, 1)) (hc : x.category = 1) (hp : pc + 1 = pc') (G : Go p e below P (T.setTop (mkF m pc' Ls (st)))) : Go p e below P (T.setTop (mkF m pc Ls (x :: st))) := by
  subst hp; exact Go.of G fun _ q => XT.pop X.here hx rfl hd rfl hc q
theorem g_dup_x1 (X : Stand p l e R s m args below meth c T locs cells slots) (hx : p.tables.exec = Jvm.exec) {pc : Nat} (pc' : Nat) {Ls : Array Slot} {st : List Value} {x y : Value} (hd : decode c.code pc = .ok (.dup_x1, 1)) (hc : x.category = 1) (hc' : y.category = 1) (hp : pc + 1 = pc') (G : Go p e below P (T.setTop (mkF m pc' Ls (x :: y :: x :: st)))) : Go p e below P (T.setTop (mkF m pc Ls (x :: y :: st))) := by
  subst hp; exact Go.of G fun _ q => XT.dupX1 X.here hx rfl hd rfl hc hc' q
theorem g_dup2 (X : Stand p l e R s m args below meth c T locs cells slots) (hx : p.tables.exec = Jvm.exec) {pc : Nat} (pc' : Nat) {Ls : Array Slot} {st : List Value} {x y : Value} (hd : decode c.code pc = .ok (.dup2, 1)) (hc : x.category = 1) (hc' : y.category = 1) (hp : pc + 1 = pc') (G : Go p e below P (T.setTop (mkF m pc' Ls (x :: y :: x :: y :: st)))) : Go p e below P (T.setTop (mkF m pc Ls (x :: y :: st))) := by
  subst hp; exact Go.of G fun _ q => XT.dup2 X.here hx rfl hd rfl hc hc' q
theorem g_ldc (X : Stand p l e R s m args below meth c T locs cells slots) (hx : p.tables.exec = Jvm.exec) {pc : Nat} (pc' : Nat) {Ls : Array Slot} {st : List Value} {own : String} {i : Nat} {v : Int32} (hd : decode c.code pc = .ok (.ldc i, 2)) (hown : s.vm.findClass own = some m.cls) (hw : (Jvm.Cond.constant own i v).before args s = true) (hp : pc + 2 = pc') (G : Go p e below P (T.setTop (mkF m pc' Ls (.int v :: st)))) : Go p e below P (T.setTop (mkF m pc Ls (st))) := by
  subst hp; exact Go.of G fun _ q => X.ldcI hx hown hw rfl hd q
theorem g_ldc2_w (X : Stand p l e R s m args below meth c T locs cells slots) (hx : p.tables.exec = Jvm.exec) {pc : Nat} (pc' : Nat) {Ls : Array Slot} {st : List Value} {own : String} {i : Nat} {v : Int64} (hd : decode c.code pc = .ok (.ldc2_w i, 3)) (hown : s.vm.findClass own = some m.cls) (hw : (Jvm.Cond.constantLong own i v).before args s = true) (hp : pc + 3 = pc') (G : Go p e below P (T.setTop (mkF m pc' Ls (.long v :: st)))) : Go p e below P (T.setTop (mkF m pc Ls (st))) := by
  subst hp; exact Go.of G fun _ q => X.ldc2J hx hown hw rfl hd q
theorem g_ifN (X : Stand p l e R s m args below meth c T locs cells slots) (hx : p.tables.exec = Jvm.exec) {pc : Nat} (pc' : Nat) {Ls : Array Slot} {st : List Value} {cd : ClassFile.Cond} {o : Int} {x : Int32} (hd : decode c.code pc = .ok (.ifCond cd o, 3)) (hc : ifCond.holds cd x = false) (hp : pc + 3 = pc') (G : Go p e below P (T.setTop (mkF m pc' Ls (st)))) : Go p e below P (T.setTop (mkF m pc Ls (.int x :: st))) := by
  subst hp; exact Go.of G fun _ q => XS.ifNo X.here hx rfl hd rfl hc q
theorem g_icmpN (X : Stand p l e R s m args below meth c T locs cells slots) (hx : p.tables.exec = Jvm.exec) {pc : Nat} (pc' : Nat) {Ls : Array Slot} {st : List Value} {cd : ClassFile.Cond} {o : Int} {x y : Int32} (hd : decode c.code pc = .ok (.if_icmp cd o, 3)) (hc : if_icmp.holds cd x y = false) (hp : pc + 3 = pc') (G : Go p e below P (T.setTop (mkF m pc' Ls (st)))) : Go p e below P (T.setTop (mkF m pc Ls (.int y :: .int x :: st))) := by
  subst hp; exact Go.of G fun _ q => XS.icmpNo X.here hx rfl hd rfl hc q
theorem g_acmpN (X : Stand p l e R s m args below meth c T locs cells slots) (hx : p.tables.exec = Jvm.exec) {pc : Nat} (pc' : Nat) {Ls : Array Slot} {st : List Value} {cd : ClassFile.ACond} {o : Int} {x y : Value} (hd : decode c.code pc = .ok (.if_acmp cd o, 3)) (hx' : x.isRef = true) (hy' : y.isRef = true) (hc : XT.acmp cd x y = false) (hp : pc + 3 = pc') (G : Go p e below P (T.setTop (mkF m pc' Ls (st)))) : Go p e below P (T.setTop (mkF m pc Ls (y :: x :: st))) := by
  subst hp; exact Go.of G fun _ q => XT.acmpNo X.here hx rfl hd rfl hx' hy' hc q
theorem g_ifnullN (X : Stand p l e R s m args below meth c T locs cells slots) (hx : p.tables.exec = Jvm.exec) {pc : Nat} (pc' : Nat) {Ls : Array Slot} {st : List Value} {o : Int} {b : Addr} (hd : decode c.code pc = .ok (.ifnull o, 3))  (hp : pc + 3 = pc') (G : Go p e below P (T.setTop (mkF m pc' Ls (st)))) : Go p e below P (T.setTop (mkF m pc Ls (.ref b :: st))) := by
  subst hp; exact Go.of G fun _ q => XS.ifnullNo X.here hx rfl hd rfl q
theorem g_ifnonnullN (X : Stand p l e R s m args below meth c T locs cells slots) (hx : p.tables.exec = Jvm.exec) {pc : Nat} (pc' : Nat) {Ls : Array Slot} {st : List Value} {o : Int} (hd : decode c.code pc = .ok (.ifnonnull o, 3))  (hp : pc + 3 = pc') (G : Go p e below P (T.setTop (mkF m pc' Ls (st)))) : Go p e below P (T.setTop (mkF m pc Ls (.null :: st))) := by
  subst hp; exact Go.of G fun _ q => XT.ifnonnullNo X.here hx rfl hd rfl q
theorem g_goto (X : Stand p l e R s m args below meth c T locs cells slots) (hx : p.tables.exec = Jvm.exec) {pc : Nat} (pc' : Nat) {o : Int} {Ls : Array Slot} {st : List Value}  (hd : decode c.code pc = .ok (.goto o, 3))  (ho : 0 ≤ (pc : Int) + o) (hp : ((pc : Int) + o).toNat = pc') (G : Go p e below P (T.setTop (mkF m pc' Ls st))) : Go p e below P (T.setTop (mkF m pc Ls (st))) :=
  Go.of G fun _ q => XS.goto X.here hx rfl (pc0 := pc) rfl hd ho hp q
theorem g_ifY (X : Stand p l e R s m args below meth c T locs cells slots) (hx : p.tables.exec = Jvm.exec) {pc : Nat} (pc' : Nat) {o : Int} {Ls : Array Slot} {st : List Value} {cd : ClassFile.Cond} {x : Int32} (hd : decode c.code pc = .ok (.ifCond cd o, 3)) (hc : ifCond.holds cd x = true) (ho : 0 ≤ (pc : Int) + o) (hp : ((pc : Int) + o).toNat = pc') (G : Go p e below P (T.setTop (mkF m pc' Ls st))) : Go p e below P (T.setTop (mkF m pc Ls (.int x :: st))) :=
  Go.of G fun _ q => XS.ifYes X.here hx rfl (pc0 := pc) rfl hd rfl hc ho hp q
theorem g_icmpY (X : Stand p l e R s m args below meth c T locs cells slots) (hx : p.tables.exec = Jvm.exec) {pc : Nat} (pc' : Nat) {o : Int} {Ls : Array Slot} {st : List Value} {cd : ClassFile.Cond} {x y : Int32} (hd : decode c.code pc = .ok (.if_icmp cd o, 3)) (hc : if_icmp.holds cd x y = true) (ho : 0 ≤ (pc : Int) + o) (hp : ((pc : Int) + o).toNat = pc') (G : Go p e below P (T.setTop (mkF m pc' Ls st))) : Go p e below P (T.setTop (mkF m pc Ls (.int y :: .int x :: st))) :=
  Go.of G fun _ q => XS.icmpYes X.here hx rfl (pc0 := pc) rfl hd rfl hc ho hp q
theorem g_acmpY (X : Stand p l e R s m args below meth c T locs cells slots) (hx : p.tables.exec = Jvm.exec) {pc : Nat} (pc' : Nat) {o : Int} {Ls : Array Slot} {st : List Value} {cd : ClassFile.ACond} {x y : Value} (hd : decode c.code pc = .ok (.if_acmp cd o, 3)) (hx' : x.isRef = true) (hy' : y.isRef = true) (hc : XT.acmp cd x y = true) (ho : 0 ≤ (pc : Int) + o) (hp : ((pc : Int) + o).toNat = pc') (G : Go p e below P (T.setTop (mkF m pc' Ls st))) : Go p e below P (T.setTop (mkF m pc Ls (y :: x :: st))) :=
  Go.of G fun _ q => XT.acmpYes X.here hx rfl (pc0 := pc) rfl hd rfl hx' hy' hc ho hp q
theorem g_ifnullY (X : Stand p l e R s m args below meth c T locs cells slots) (hx : p.tables.exec = Jvm.exec) {pc : Nat} (pc' : Nat) {o : Int} {Ls : Array Slot} {st : List Value}  (hd : decode c.code pc = .ok (.ifnull o, 3))  (ho : 0 ≤ (pc : Int) + o) (hp : ((pc : Int) + o).toNat = pc') (G : Go p e below P (T.setTop (mkF m pc' Ls st))) : Go p e below P (T.setTop (mkF m pc Ls (.null :: st))) :=
  Go.of G fun _ q => XS.ifnullYes X.here hx rfl (pc0 := pc) rfl hd rfl ho hp q
theorem g_ifnonnullY (X : Stand p l e R s m args below meth c T locs cells slots) (hx : p.tables.exec = Jvm.exec) {pc : Nat} (pc' : Nat) {o : Int} {Ls : Array Slot} {st : List Value} {b : Addr} (hd : decode c.code pc = .ok (.ifnonnull o, 3))  (ho : 0 ≤ (pc : Int) + o) (hp : ((pc : Int) + o).toNat = pc') (G : Go p e below P (T.setTop (mkF m pc' Ls st))) : Go p e below P (T.setTop (mkF m pc Ls (.ref b :: st))) :=
  Go.of G fun _ q => XT.ifnonnullYes X.here hx rfl (pc0 := pc) rfl hd rfl ho hp q

theorem g_callS (X : Stand p l e R s m args below meth c T locs cells slots) (hx : p.tables.exec = Jvm.exec) (hZ : Z.Warmed39 s.vm) {own : String} {index : Nat} {y : MethodName} {bytes : ByteArray} {maxL : Nat} {ret : Option FieldType} {rm : Room} {as' : List Value} {Q' : Option Value → Heap → List Loc → Prop}
    (hown : s.vm.findClass own = some m.cls) (w1 : (Jvm.Cond.methodLink own index y).before a0 Z = true) (w2 : (Jvm.Cond.static y).before a0 Z = true) (w3 : (Jvm.Cond.initialized y.cls).before a0 Z = true) (w4 : (Jvm.Cond.code y bytes maxL ret).before a0 Z = true)
    (np : y.cls ≠ "java/lang/invoke/MethodHandle" ∧ y.cls ≠ "java/lang/invoke/VarHandle") (eT : T.heap = h)
    (hM : MetFree l y (head1 [Jvm.Cond.code y bytes maxL ret] rm) (fun a U => a = as'.toArray ∧ Z.Warmed39 U.vm ∧ U.heap = h) (fun _ _ _ _ _ => True) (fun _ U o U' => ∃ v L, o = .returned v ∧ Q' v U'.heap L ∧ FrameEnd U o U' L rm.cells rm.slots))
    {ps : List FieldType} {rt : Option FieldType} (pd : parseMethodDescriptor y.desc = some ⟨ps, rt⟩) (hlen : as'.length = ps.length)
    (W : Nat) (hf : rm.frames + 1 ≤ R.frames) (hl : W + (maxL + 11) + rm.locals ≤ R.locals) (hc : cells + rm.cells ≤ R.cells) (hs : slots + rm.slots ≤ R.slots)
    {pc : Nat} {Ls : Array Slot} {rest st : List Value} (hsz : Ls.size = c.maxLocals) (hst : st = as'.reverse ++ rest) (hW : (rest.map fun v => v.category).sum ≤ W) (hd : decode c.code pc = .ok (.invokestatic index, 3)) :
    ∃ v T' L, Stand p l e R s m args below meth c T' (locs ++ L) (cells + rm.cells) (slots + rm.slots) ∧ Q' v T'.heap L ∧ ∀ t, Steps p.tables e below (T'.setTop (mkF m (pc + 3) Ls (v.toList ++ rest))) t → Steps p.tables e below (T.setTop (mkF m pc Ls st)) t := by
  obtain ⟨v, _, ⟨T', L', k', n'⟩, -, X', ⟨L, hQ, l1, y1, z1⟩, st'⟩ := Jvm.LawKit.callS X hx (y := y) hown (mvT hZ w1) (mvT hZ w2) (mvT hZ w3) (mvT hZ w4) np (backOf (W := W) hM hZ w4 w3 hf hl) (g := mkF m pc Ls st) rfl hsz (argsL := as') (rest := rest) (lenOf pd hlen) hst (by show 2 * 0 + _ ≤ _; omega) hd (fun _ _ => ⟨rfl, eT, hc, hs⟩)
  dsimp only [Pt.U, Pt.locs, Pt.cells, Pt.slots] at X' l1 y1 z1 st' hQ
  subst l1 y1 z1
  exact ⟨v, T', L, X', hQ, st'⟩
/-- a callee that only answers -/
def Pur (w : Option Value) (h0 : Heap) (v : Option Value) (h : Heap) (L : List Loc) : Prop := v = w ∧ L = [] ∧ h = h0
theorem g_callSP (X : Stand p l e R s m args below meth c T locs cells slots) (hx : p.tables.exec = Jvm.exec) (hZ : Z.Warmed39 s.vm) {own : String} {index : Nat} {y : MethodName} {bytes : ByteArray} {maxL : Nat} {ret : Option FieldType} {rm : Room} {as' : List Value} {w : Option Value}
    (hown : s.vm.findClass own = some m.cls) (w1 : (Jvm.Cond.methodLink own index y).before a0 Z = true) (w2 : (Jvm.Cond.static y).before a0 Z = true) (w3 : (Jvm.Cond.initialized y.cls).before a0 Z = true) (w4 : (Jvm.Cond.code y bytes maxL ret).before a0 Z = true)
    (np : y.cls ≠ "java/lang/invoke/MethodHandle" ∧ y.cls ≠ "java/lang/invoke/VarHandle") (eT : T.heap = h)
    (hM : MetFree l y (head1 [Jvm.Cond.code y bytes maxL ret] rm) (fun a U => a = as'.toArray ∧ Z.Warmed39 U.vm ∧ U.heap = h) (fun _ _ _ _ _ => True) (fun _ U o U' => ∃ v L, o = .returned v ∧ Pur w h v U'.heap L ∧ FrameEnd U o U' L rm.cells rm.slots))
    {ps : List FieldType} {rt : Option FieldType} (pd : parseMethodDescriptor y.desc = some ⟨ps, rt⟩) (hlen : as'.length = ps.length)
    (W : Nat) (hf : rm.frames + 1 ≤ R.frames) (hl : W + (maxL + 11) + rm.locals ≤ R.locals) (hc : cells + rm.cells ≤ R.cells) (hs : slots + rm.slots ≤ R.slots) (h0 : rm.cells = 0) (h1 : rm.slots = 0)
    {pc pc' : Nat} {Ls : Array Slot} {rest st : List Value} (hsz : Ls.size = c.maxLocals) (hst : st = as'.reverse ++ rest) (hW : (rest.map fun v => v.category).sum ≤ W) (hd : decode c.code pc = .ok (.invokestatic index, 3)) (hp : pc + 3 = pc') :
    ∃ T', Stand p l e R s m args below meth c T' locs cells slots ∧ T'.heap = h ∧ ∀ {P : State → Outcome → Prop}, Go p e below P (T'.setTop (mkF m pc' Ls (w.toList ++ rest))) → Go p e below P (T.setTop (mkF m pc Ls st)) := by
  obtain ⟨v, T', L, X', ⟨rfl, rfl, e1⟩, st'⟩ := g_callS X hx hZ hown w1 w2 w3 w4 np eT hM pd hlen W hf hl hc hs hsz hst hW hd
  subst hp
  rw [h0, h1, List.append_nil] at X'
  exact ⟨T', X', e1, fun G => Go.of G st'⟩


theorem g_getF (X : Stand p l e R s m args below meth c T locs cells slots) (hx : p.tables.exec = Jvm.exec) (hZ : Z.Warmed39 s.vm) {own R0 O n d : String} {index : Nat} (hown : s.vm.findClass own = some m.cls) (w : (Jvm.Cond.fieldLink own index R0 n d).before a0 Z = true) (via : Via Z R0 O n d) (eT : T.heap = h) {a : Addr} {v : Value} (F : Fld Z h a O n d v)
    {pc : Nat} (pc' : Nat) {Ls : Array Slot} {st : List Value} (hd : decode c.code pc = .ok (.getfield index, 3)) (hp : pc + 3 = pc') :
    ∃ T', Stand p l e R s m args below meth c T' locs cells slots ∧ T'.heap = h ∧ ∀ {P : State → Outcome → Prop}, Go p e below P (T'.setTop (mkF m pc' Ls (v :: st))) → Go p e below P (T.setTop (mkF m pc Ls (.ref a :: st))) := by
  subst hp
  obtain ⟨T', X', e', f⟩ := getF X hx hZ hown (host := "") (Or.inl w) via eT F (g := mkF m pc Ls (.ref a :: st)) rfl rfl hd
  exact ⟨T', X', e', fun G => Go.of G f⟩
theorem g_getS (X : Stand p l e R s m args below meth c T locs cells slots) (hx : p.tables.exec = Jvm.exec) (hZ : Z.Warmed39 s.vm) {own O n d : String} {index : Nat} (hown : s.vm.findClass own = some m.cls) (w : (Jvm.Cond.fieldLink own index O n d).before a0 Z = true) (eT : T.heap = h) {v : Value} (F : Sta Z h O n d v)
    {pc : Nat} (pc' : Nat) {Ls : Array Slot} {st : List Value} (hd : decode c.code pc = .ok (.getstatic index, 3)) (hp : pc + 3 = pc') :
    ∃ T', Stand p l e R s m args below meth c T' locs cells slots ∧ T'.heap = h ∧ ∀ {P : State → Outcome → Prop}, Go p e below P (T'.setTop (mkF m pc' Ls (v :: st))) → Go p e below P (T.setTop (mkF m pc Ls st)) := by
  subst hp
  obtain ⟨T', X', e', f⟩ := getS X hx hZ hown (host := "") w Via.refl eT F (g := mkF m pc Ls st) rfl hd
  exact ⟨T', X', e', fun G => Go.of G f⟩
theorem g_putF (X : Stand p l e R s m args below meth c T locs cells slots) (hx : p.tables.exec = Jvm.exec) (hZ : Z.Warmed39 s.vm) {own R0 O n d C : String} {index kk : Nat} {ty : FieldType} (hown : s.vm.findClass own = some m.cls) (w : (Jvm.Cond.fieldLink own index R0 n d).before a0 Z = true) (via : Via Z R0 O n d) (eT : T.heap = h) {a : Addr} {v old : Value} (F : Fld Z h a O n d old) (E : Exa Z h a C)
    (L : (Jvm.Cond.lays C O n d).before a0 Z = true ∨ ((Jvm.Cond.laysFinal C O n d).before a0 Z = true ∧ own = O ∧ meth.name = "<init>")) (wi : (Jvm.Cond.instantiable C kk).before a0 Z = true) (hty : parseFieldDescriptor d = some ty) (hn : narrow ty v = v) (hf : fits ty v = true)
    {pc : Nat} (pc' : Nat) {Ls : Array Slot} {st : List Value} (hd : decode c.code pc = .ok (.putfield index, 3)) (hp : pc + 3 = pc') :
    ∃ T' h', Stand p l e R s m args below meth c T' (locs ++ [⟨a, Jvm.RoadKit.slotOf Z O n d⟩]) cells slots ∧ T'.heap = h' ∧ Wr h h' a (Jvm.RoadKit.slotOf Z O n d) v ∧ ∀ {P : State → Outcome → Prop}, Go p e below P (T'.setTop (mkF m pc' Ls st)) → Go p e below P (T.setTop (mkF m pc Ls (v :: .ref a :: st))) := by
  subst hp
  obtain ⟨T', h', X', e', W, f⟩ := putF X hx hZ hown (host := "") (Or.inl w) via eT F E L wi hty hn hf (g := mkF m pc Ls (v :: .ref a :: st)) rfl rfl hd
  exact ⟨T', h', X', e', W, fun G => Go.of G f⟩
theorem g_newO (X : Stand p l e R s m args below meth c T locs cells slots) (hx : p.tables.exec = Jvm.exec) (hZ : Z.Warmed39 s.vm) {own C : String} {index n : Nat} (hown : s.vm.findClass own = some m.cls) (w : (Jvm.Cond.classLink own index C).before a0 Z = true) (wi : (Jvm.Cond.instantiable C n).before a0 Z = true) (wz : (Jvm.Cond.initialized C).before a0 Z = true) (eT : T.heap = h)
    {pc : Nat} (pc' : Nat) {Ls : Array Slot} {st : List Value} (hd : decode c.code pc = .ok (.new index, 3)) (hp : pc + 3 = pc') (hc : cells + 1 ≤ R.cells) (hl : slots + n ≤ R.slots) :
    ∃ T' h' a, Stand p l e R s m args below meth c T' locs (cells + 1) (slots + n) ∧ T'.heap = h' ∧ a = h.size ∧ Ext h h' ∧ Exa Z h' a C ∧ (∀ {O nm d : String} {ty : FieldType}, Laid Z a0 C O nm d → parseFieldDescriptor d = some ty → Fld Z h' a O nm d (defaultValue ty)) ∧
      ∀ {P : State → Outcome → Prop}, Go p e below P (T'.setTop (mkF m pc' Ls (.ref a :: st))) → Go p e below P (T.setTop (mkF m pc Ls st)) := by
  subst hp
  obtain ⟨T', h', X', e', E, A, D, -, f⟩ := newO X hx hZ hown w wi wz eT (g := mkF m pc Ls st) rfl hd hc hl
  exact ⟨T', h', _, X', e', rfl, E, A, D, fun G => Go.of G f⟩
theorem g_initO (X : Stand p l e R s m args below meth c T locs cells slots) (hx : p.tables.exec = Jvm.exec) (hZ : Z.Warmed39 s.vm) {own : String} {idx : Nat} (hown : s.vm.findClass own = some m.cls) (w1 : (Jvm.Cond.methodLink own idx Lib.objectInit).before a0 Z = true) (w2 : (Jvm.Cond.instanceMethod Lib.objectInit).before a0 Z = true)
    (w3 : (Jvm.Cond.code Lib.objectInit ⟨#[0xb1]⟩ 1 none).before a0 Z = true) (eT : T.heap = h) (W : Nat) (hf : 1 ≤ R.frames) (hl : W + 12 ≤ R.locals) {a : Addr} {pc : Nat} (pc' : Nat) {Ls : Array Slot} {st : List Value} (hsz : Ls.size = c.maxLocals) (hW : (st.map fun v => v.category).sum ≤ W) (hd : decode c.code pc = .ok (.invokespecial idx, 3)) (hp : pc + 3 = pc') :
    ∃ T', Stand p l e R s m args below meth c T' locs cells slots ∧ T'.heap = h ∧ ∀ {P : State → Outcome → Prop}, Go p e below P (T'.setTop (mkF m pc' Ls st)) → Go p e below P (T.setTop (mkF m pc Ls (.ref a :: st))) := by
  subst hp
  obtain ⟨T', X', e', f⟩ := initO X hx hZ hown w1 w2 w3 eT (g := mkF m pc Ls (.ref a :: st)) rfl hsz rfl hd hf (W := W) (by show 2 * 0 + _ ≤ _; omega) hl
  exact ⟨T', X', e', fun G => Go.of G f⟩
theorem g_newP (X : Stand p l e R s m args below meth c T locs cells slots) (hx : p.tables.exec = Jvm.exec) (hZ : Z.Warmed39 s.vm) {aty : ArrayType} (w : (Jvm.Cond.arrayClass (newarray.typeOf aty)).before a0 Z = true) (eT : T.heap = h) {n : Int32} (cap : Nat) (hn : ¬ n < 0) (hcap : n.toNatClampNeg ≤ cap) (hbig : cap * 8 ≤ 536870912) (hc : cells + 1 ≤ R.cells) (hl : slots + cap ≤ R.slots)
    {pc : Nat} (pc' : Nat) {Ls : Array Slot} {st : List Value} (hd : decode c.code pc = .ok (.newarray aty, 2)) (hp : pc + 2 = pc') :
    ∃ T' h' a cA, Stand p l e R s m args below meth c T' locs (cells + 1) (slots + cap) ∧ T'.heap = h' ∧ a = h.size ∧ Ext h h' ∧ Arr Z h' a (newA cA (newarray.typeOf aty) n) (newarray.typeOf aty) ∧
      ∀ {P : State → Outcome → Prop}, Go p e below P (T'.setTop (mkF m pc' Ls (.ref a :: st))) → Go p e below P (T.setTop (mkF m pc Ls (.int n :: st))) := by
  subst hp
  obtain ⟨T', h', cA, X', e', E, A, f⟩ := newP X hx hZ w eT (g := mkF m pc Ls (.int n :: st)) rfl hd rfl hn hcap hbig hc hl
  exact ⟨T', h', _, cA, X', e', rfl, E, A, fun G => Go.of G f⟩
theorem g_callI (X : Stand p l e R s m args below meth c T locs cells slots) (hx : p.tables.exec = Jvm.exec) (hZ : Z.Warmed39 s.vm) {own : String} {index : Nat} {y : MethodName} {bytes : ByteArray} {maxL : Nat} {rm : Room} {a : Addr} {as' : List Value} {Q' : Option Value → Heap → List Loc → Prop} (hy1 : y.name = "<init>")
    (hown : s.vm.findClass own = some m.cls) (w1 : (Jvm.Cond.methodLink own index y).before a0 Z = true) (w2 : (Jvm.Cond.instanceMethod y).before a0 Z = true) (w3 : (Jvm.Cond.initialized y.cls).before a0 Z = true) (w4 : (Jvm.Cond.code y bytes maxL none).before a0 Z = true)
    (np : y.cls ≠ "java/lang/invoke/MethodHandle" ∧ y.cls ≠ "java/lang/invoke/VarHandle") (eT : T.heap = h)
    (hM : MetFree l y (head1 [Jvm.Cond.code y bytes maxL none] rm) (fun b U => b = (.ref a :: as').toArray ∧ Z.Warmed39 U.vm ∧ U.heap = h) (fun _ _ _ _ _ => True) (fun _ U o U' => ∃ v L, o = .returned v ∧ Q' v U'.heap L ∧ FrameEnd U o U' L rm.cells rm.slots))
    {ps : List FieldType} {rt : Option FieldType} (pd : parseMethodDescriptor y.desc = some ⟨ps, rt⟩) (hlen : as'.length = ps.length)
    (W : Nat) (hf : rm.frames + 1 ≤ R.frames) (hl : W + (maxL + 11) + rm.locals ≤ R.locals) (hc : cells + rm.cells ≤ R.cells) (hs : slots + rm.slots ≤ R.slots)
    {pc : Nat} {Ls : Array Slot} {rest st : List Value} (hsz : Ls.size = c.maxLocals) (hst : st = as'.reverse ++ .ref a :: rest) (hW : (rest.map fun v => v.category).sum ≤ W) (hd : decode c.code pc = .ok (.invokespecial index, 3)) :
    ∃ v T' L, Stand p l e R s m args below meth c T' (locs ++ L) (cells + rm.cells) (slots + rm.slots) ∧ Q' v T'.heap L ∧ ∀ {P : State → Outcome → Prop}, Go p e below P (T'.setTop (mkF m (pc + 3) Ls (v.toList ++ rest))) → Go p e below P (T.setTop (mkF m pc Ls st)) := by
  obtain ⟨v, _, ⟨T', L', k', n'⟩, -, X', ⟨L, hQ, l1, y1, z1⟩, st'⟩ := X.specialBack hx (y := y) hy1 hown (mvT hZ w1) (mvT hZ w2) (mvT hZ w4) np (backOf (W := W) hM hZ w4 w3 hf hl) (g := mkF m pc Ls st) rfl hsz (Steps.refl _) (a := a) (argsL := as') (rest := rest) (lenOf pd hlen) hst (by show 2 * 0 + _ ≤ _; omega) hd (fun _ _ => ⟨rfl, eT, hc, hs⟩)
  dsimp only [Pt.U, Pt.locs, Pt.cells, Pt.slots] at X' l1 y1 z1 st' hQ
  subst l1 y1 z1
  exact ⟨v, T', L, X', hQ, fun G => Go.of G fun _ q => st'.trans q⟩
theorem g_callV (X : Stand p l e R s m args below meth c T locs cells slots) (hx : p.tables.exec = Jvm.exec) (hZ : Z.Warmed39 s.vm) {own C : String} {index : Nat} {y z : MethodName} {bytes : ByteArray} {maxL : Nat} {ret : Option FieldType} {rm : Room} {a : Addr} {as' : List Value} {Q' : Option Value → Heap → List Loc → Prop}
    (hown : s.vm.findClass own = some m.cls) (w1 : (Jvm.Cond.methodLink own index y).before a0 Z = true) (w2 : (Jvm.Cond.declares y).before a0 Z = true) (w5 : (Jvm.Cond.selects y.cls y y).before a0 Z = true) (w6 : (Jvm.Cond.selects C y z).before a0 Z = true) (w7 : (Jvm.Cond.instanceMethod z).before a0 Z = true) (w3 : (Jvm.Cond.initialized z.cls).before a0 Z = true) (w4 : (Jvm.Cond.code z bytes maxL ret).before a0 Z = true)
    (np : y.cls ≠ "java/lang/invoke/MethodHandle" ∧ y.cls ≠ "java/lang/invoke/VarHandle") (eT : T.heap = h) (E : Exa Z h a C)
    (hM : MetFree l z (head1 [Jvm.Cond.code z bytes maxL ret] rm) (fun b U => b = (.ref a :: as').toArray ∧ Z.Warmed39 U.vm ∧ U.heap = h) (fun _ _ _ _ _ => True) (fun _ U o U' => ∃ v L, o = .returned v ∧ Q' v U'.heap L ∧ FrameEnd U o U' L rm.cells rm.slots))
    {ps : List FieldType} {rt : Option FieldType} (pd : parseMethodDescriptor y.desc = some ⟨ps, rt⟩) (hlen : as'.length = ps.length)
    (W : Nat) (hf : rm.frames + 1 ≤ R.frames) (hl : W + (maxL + 11) + rm.locals ≤ R.locals) (hc : cells + rm.cells ≤ R.cells) (hs : slots + rm.slots ≤ R.slots)
    {pc : Nat} {Ls : Array Slot} {rest st : List Value} (hsz : Ls.size = c.maxLocals) (hst : st = as'.reverse ++ .ref a :: rest) (hW : (rest.map fun v => v.category).sum ≤ W) (hd : decode c.code pc = .ok (.invokevirtual index, 3)) :
    ∃ v T' L, Stand p l e R s m args below meth c T' (locs ++ L) (cells + rm.cells) (slots + rm.slots) ∧ Q' v T'.heap L ∧ ∀ {P : State → Outcome → Prop}, Go p e below P (T'.setTop (mkF m (pc + 3) Ls (v.toList ++ rest))) → Go p e below P (T.setTop (mkF m pc Ls st)) := by
  obtain ⟨cq, kq, qa, qb, qc⟩ := isOf hZ eT E
  obtain ⟨v, _, ⟨T', L', k', n'⟩, -, X', ⟨L, hQ, l1, y1, z1⟩, st'⟩ := X.virtualBack hx (y := y) (z := z) hown (mvT hZ w1) (mvT hZ w2) (notFace_of_selects (args := #[]) (mvT hZ w5)) (mvT hZ w6) (mvT hZ w7) np (backOf (W := W) hM hZ w4 w3 hf hl) qa qc (g := mkF m pc Ls st) rfl hsz (Steps.refl _) (argsL := as') (rest := rest) (lenOf pd hlen) hst (by show 2 * 0 + _ ≤ _; omega) hd (fun _ _ => ⟨rfl, eT, hc, hs⟩)
  dsimp only [Pt.U, Pt.locs, Pt.cells, Pt.slots] at X' l1 y1 z1 st' hQ
  subst l1 y1 z1
  exact ⟨v, T', L, X', hQ, fun G => Go.of G fun _ q => st'.trans q⟩
theorem g_callVP (X : Stand p l e R s m args below meth c T locs cells slots) (hx : p.tables.exec = Jvm.exec) (hZ : Z.Warmed39 s.vm) {own C : String} {index : Nat} {y z : MethodName} {bytes : ByteArray} {maxL : Nat} {ret : Option FieldType} {rm : Room} {a : Addr} {as' : List Value} {w : Option Value}
    (hown : s.vm.findClass own = some m.cls) (w1 : (Jvm.Cond.methodLink own index y).before a0 Z = true) (w2 : (Jvm.Cond.declares y).before a0 Z = true) (w5 : (Jvm.Cond.selects y.cls y y).before a0 Z = true) (w6 : (Jvm.Cond.selects C y z).before a0 Z = true) (w7 : (Jvm.Cond.instanceMethod z).before a0 Z = true) (w3 : (Jvm.Cond.initialized z.cls).before a0 Z = true) (w4 : (Jvm.Cond.code z bytes maxL ret).before a0 Z = true)
    (np : y.cls ≠ "java/lang/invoke/MethodHandle" ∧ y.cls ≠ "java/lang/invoke/VarHandle") (eT : T.heap = h) (E : Exa Z h a C)
    (hM : MetFree l z (head1 [Jvm.Cond.code z bytes maxL ret] rm) (fun b U => b = (.ref a :: as').toArray ∧ Z.Warmed39 U.vm ∧ U.heap = h) (fun _ _ _ _ _ => True) (fun _ U o U' => ∃ v L, o = .returned v ∧ Pur w h v U'.heap L ∧ FrameEnd U o U' L rm.cells rm.slots))
    {ps : List FieldType} {rt : Option FieldType} (pd : parseMethodDescriptor y.desc = some ⟨ps, rt⟩) (hlen : as'.length = ps.length)
    (W : Nat) (hf : rm.frames + 1 ≤ R.frames) (hl : W + (maxL + 11) + rm.locals ≤ R.locals) (hc : cells + rm.cells ≤ R.cells) (hs : slots + rm.slots ≤ R.slots) (h0 : rm.cells = 0) (h1 : rm.slots = 0)
    {pc pc' : Nat} {Ls : Array Slot} {rest st : List Value} (hsz : Ls.size = c.maxLocals) (hst : st = as'.reverse ++ .ref a :: rest) (hW : (rest.map fun v => v.category).sum ≤ W) (hd : decode c.code pc = .ok (.invokevirtual index, 3)) (hp : pc + 3 = pc') :
    ∃ T', Stand p l e R s m args below meth c T' locs cells slots ∧ T'.heap = h ∧ ∀ {P : State → Outcome → Prop}, Go p e below P (T'.setTop (mkF m pc' Ls (w.toList ++ rest))) → Go p e below P (T.setTop (mkF m pc Ls st)) := by
  obtain ⟨v, T', L, X', ⟨rfl, rfl, e1⟩, st'⟩ := g_callV X hx hZ hown w1 w2 w5 w6 w7 w3 w4 np eT E hM pd hlen W hf hl hc hs hsz hst hW hd
  subst hp
  rw [h0, h1, List.append_nil] at X'
  exact ⟨T', X', e1, st'⟩

end Own
theorem own_d100 (v : Int32) : v / (100 : Int32) = (1 : Int32) ↔ (¬ v < (100 : Int32) ∧ ¬ (199 : Int32) < v) := by
  have e1 : (100 : Int32).toInt = 100 := rfl
  have e2 : (1 : Int32).toInt = 1 := rfl
  have e3 : (199 : Int32).toInt = 199 := rfl
  rw [← Int32.toInt_inj, Jvm.Kit.i32_div (by rw [e1]; omega), Int32.lt_iff_toInt_lt, Int32.lt_iff_toInt_lt, e1, e2, e3]
  by_cases h : 0 ≤ v.toInt
  · rw [Int.tdiv_eq_ediv_of_nonneg h]; omega
  · have h2 : v.toInt.tdiv 100 ≤ 0 := by
      have := Int.tdiv_eq_ediv_of_nonneg (a := -v.toInt) (b := 100) (by omega)
      rw [Int.neg_tdiv] at this; omega
    omega
def LQ (h0 : Heap) (v : Option Value) (h : Heap) (L : List Loc) : Prop := v = some (.int 1) ∧ Fr h0.size L
def b2i (p : Prop) [Decidable p] : Int32 := if p then 1 else 0
theorem b2i_t {p : Prop} [Decidable p] (h : p) : b2i p = 1 := if_pos h
theorem b2i_f {p : Prop} [Decidable p] (h : ¬ p) : b2i p = 0 := if_neg h
def AnyI (h0 : Heap) (v : Option Value) (h : Heap) (L : List Loc) : Prop := ∃ z : Int32, v = some (.int z) ∧ L = [] ∧ h = h0
theorem pick_0 : decode method_2_code 0 = .ok (.iload_n 1, 1) := by decide +kernel
theorem pick_1 : decode method_2_code 1 = .ok (.bipush 7, 2) := by decide +kernel
theorem pick_3 : decode method_2_code 3 = .ok (.iand, 1) := by decide +kernel
theorem pick_4 : decode method_2_code 4 = .ok (.istore_n 2, 1) := by decide +kernel
theorem pick_5 : decode method_2_code 5 = .ok (.iload_n 2, 1) := by decide +kernel
theorem pick_6 : decode method_2_code 6 = .ok (.ifCond .ne 8, 3) := by decide +kernel
theorem pick_9 : decode method_2_code 9 = .ok (.iload_n 0, 1) := by decide +kernel
theorem pick_10 : decode method_2_code 10 = .ok (.istore_n 3, 1) := by decide +kernel
theorem pick_11 : decode method_2_code 11 = .ok (.goto 103, 3) := by decide +kernel
theorem pick_14 : decode method_2_code 14 = .ok (.iload_n 2, 1) := by decide +kernel
theorem pick_15 : decode method_2_code 15 = .ok (.iconst 1, 1) := by decide +kernel
theorem pick_16 : decode method_2_code 16 = .ok (.if_icmp .ne 14, 3) := by decide +kernel
theorem pick_19 : decode method_2_code 19 = .ok (.bipush 90, 2) := by decide +kernel
theorem pick_21 : decode method_2_code 21 = .ok (.iload_n 0, 1) := by decide +kernel
theorem pick_22 : decode method_2_code 22 = .ok (.bipush 127, 2) := by decide +kernel
theorem pick_24 : decode method_2_code 24 = .ok (.iand, 1) := by decide +kernel
theorem pick_25 : decode method_2_code 25 = .ok (.iadd, 1) := by decide +kernel
theorem pick_26 : decode method_2_code 26 = .ok (.istore_n 3, 1) := by decide +kernel
theorem pick_27 : decode method_2_code 27 = .ok (.goto 87, 3) := by decide +kernel
theorem pick_30 : decode method_2_code 30 = .ok (.iload_n 2, 1) := by decide +kernel
theorem pick_31 : decode method_2_code 31 = .ok (.iconst 2, 1) := by decide +kernel
theorem pick_32 : decode method_2_code 32 = .ok (.if_icmp .ne 15, 3) := by decide +kernel
theorem pick_35 : decode method_2_code 35 = .ok (.sipush 200, 3) := by decide +kernel
theorem pick_38 : decode method_2_code 38 = .ok (.iload_n 0, 1) := by decide +kernel
theorem pick_39 : decode method_2_code 39 = .ok (.bipush 7, 2) := by decide +kernel
theorem pick_41 : decode method_2_code 41 = .ok (.iand, 1) := by decide +kernel
theorem pick_42 : decode method_2_code 42 = .ok (.iadd, 1) := by decide +kernel
theorem pick_43 : decode method_2_code 43 = .ok (.istore_n 3, 1) := by decide +kernel
theorem pick_44 : decode method_2_code 44 = .ok (.goto 70, 3) := by decide +kernel
theorem pick_47 : decode method_2_code 47 = .ok (.iload_n 2, 1) := by decide +kernel
theorem pick_48 : decode method_2_code 48 = .ok (.iconst 3, 1) := by decide +kernel
theorem pick_49 : decode method_2_code 49 = .ok (.if_icmp .ne 15, 3) := by decide +kernel
theorem pick_52 : decode method_2_code 52 = .ok (.sipush 300, 3) := by decide +kernel
theorem pick_55 : decode method_2_code 55 = .ok (.iload_n 0, 1) := by decide +kernel
theorem pick_56 : decode method_2_code 56 = .ok (.bipush 7, 2) := by decide +kernel
theorem pick_58 : decode method_2_code 58 = .ok (.iand, 1) := by decide +kernel
theorem pick_59 : decode method_2_code 59 = .ok (.iadd, 1) := by decide +kernel
theorem pick_60 : decode method_2_code 60 = .ok (.istore_n 3, 1) := by decide +kernel
theorem pick_61 : decode method_2_code 61 = .ok (.goto 53, 3) := by decide +kernel
theorem pick_64 : decode method_2_code 64 = .ok (.iload_n 2, 1) := by decide +kernel
theorem pick_65 : decode method_2_code 65 = .ok (.iconst 4, 1) := by decide +kernel
theorem pick_66 : decode method_2_code 66 = .ok (.if_icmp .ne 13, 3) := by decide +kernel
theorem pick_69 : decode method_2_code 69 = .ok (.iload_n 0, 1) := by decide +kernel
theorem pick_70 : decode method_2_code 70 = .ok (.sipush 255, 3) := by decide +kernel
theorem pick_73 : decode method_2_code 73 = .ok (.iand, 1) := by decide +kernel
theorem pick_74 : decode method_2_code 74 = .ok (.ineg, 1) := by decide +kernel
theorem pick_75 : decode method_2_code 75 = .ok (.istore_n 3, 1) := by decide +kernel
theorem pick_76 : decode method_2_code 76 = .ok (.goto 38, 3) := by decide +kernel
theorem pick_79 : decode method_2_code 79 = .ok (.iload_n 2, 1) := by decide +kernel
theorem pick_80 : decode method_2_code 80 = .ok (.iconst 5, 1) := by decide +kernel
theorem pick_81 : decode method_2_code 81 = .ok (.if_icmp .ne 16, 3) := by decide +kernel
theorem pick_84 : decode method_2_code 84 = .ok (.sipush 1000, 3) := by decide +kernel
theorem pick_87 : decode method_2_code 87 = .ok (.iload_n 0, 1) := by decide +kernel
theorem pick_88 : decode method_2_code 88 = .ok (.sipush 1023, 3) := by decide +kernel
theorem pick_91 : decode method_2_code 91 = .ok (.iand, 1) := by decide +kernel
theorem pick_92 : decode method_2_code 92 = .ok (.iadd, 1) := by decide +kernel
theorem pick_93 : decode method_2_code 93 = .ok (.istore_n 3, 1) := by decide +kernel
theorem pick_94 : decode method_2_code 94 = .ok (.goto 20, 3) := by decide +kernel
theorem pick_97 : decode method_2_code 97 = .ok (.iload_n 2, 1) := by decide +kernel
theorem pick_98 : decode method_2_code 98 = .ok (.bipush 6, 2) := by decide +kernel
theorem pick_100 : decode method_2_code 100 = .ok (.if_icmp .ne 12, 3) := by decide +kernel
theorem pick_103 : decode method_2_code 103 = .ok (.iload_n 0, 1) := by decide +kernel
theorem pick_104 : decode method_2_code 104 = .ok (.sipush 1023, 3) := by decide +kernel
theorem pick_107 : decode method_2_code 107 = .ok (.iand, 1) := by decide +kernel
theorem pick_108 : decode method_2_code 108 = .ok (.istore_n 3, 1) := by decide +kernel
theorem pick_109 : decode method_2_code 109 = .ok (.goto 5, 3) := by decide +kernel
theorem pick_112 : decode method_2_code 112 = .ok (.iload_n 0, 1) := by decide +kernel
theorem pick_113 : decode method_2_code 113 = .ok (.istore_n 3, 1) := by decide +kernel
theorem pick_114 : decode method_2_code 114 = .ok (.iload_n 3, 1) := by decide +kernel
theorem pick_115 : decode method_2_code 115 = .ok (.ireturn, 1) := by decide +kernel
theorem pn_pick : plainFor (⟨"com/example/modest_broker/modestbroker/server/Http1SyntaxBodylessPinLaw", "pickStatus", "(II)I"⟩ : MethodName) = true := by first | exact plainFor_of_name (by first | (simp [plainName, overriddenIn]; done) | decide +kernel) | decide +kernel
theorem ef_pick (m : MethodId) (q1 : Int32) (q2 : Int32) : entryFrame m #[(.int q1), (.int q2)] 4 = mkF m 0 #[.val (.int q1), .val (.int q2), .unset, .unset] [] := by first | (simp [entryFrame, mkF, argsToLocals, Value.category, maxLocals]; done) | rfl
theorem pd_pick : parseMethodDescriptor "(II)I" = some ⟨[.int, .int], some (.int)⟩ := by decide +kernel
set_option maxRecDepth 65536 in
set_option maxHeartbeats 40000000 in
theorem rm_pick (l : Launch) (Z : State) (a0 : Array Value) (hw : ∀ d ∈ tables_1, d.before a0 Z = true)  (q1 : Int32) (q2 : Int32) (h0 : Heap)  :
    MetFree l (⟨"com/example/modest_broker/modestbroker/server/Http1SyntaxBodylessPinLaw", "pickStatus", "(II)I"⟩ : MethodName) (head1 [Jvm.Cond.code (⟨"com/example/modest_broker/modestbroker/server/Http1SyntaxBodylessPinLaw", "pickStatus", "(II)I"⟩ : MethodName) method_2_code 4 (some Jvm.ClassFile.FieldType.int)] ({ frames := 0, cells := 0, slots := 0, locals := 0 } : Room)) (fun a U => a = #[(.int q1), (.int q2)] ∧ Z.Warmed39 U.vm ∧ U.heap = h0) (fun _ _ _ _ _ => True) (fun _ U o U' => ∃ v L, o = .returned v ∧ AnyI h0 v U'.heap L ∧ FrameEnd U o U' L ({ frames := 0, cells := 0, slots := 0, locals := 0 } : Room).cells ({ frames := 0, cells := 0, slots := 0, locals := 0 } : Room).slots) := by
  refine MetFree.of_bodySF pn_pick hisR ?_
  intro p e s m args below meth c s₁ Bd hml0 hP hK
  obtain ⟨rfl, hZ, hh⟩ := hP
  have hx := Bd.exec
  have hby := Bd.bytes
  have hml : c.maxLocals = 4 := hml0
  have hown : s.vm.findClass "com/example/modest_broker/modestbroker/server/Http1SyntaxBodylessPinLaw" = some m.cls := findClass_of_methodNamed Bd.named
  have hnm := (name_of_methodNamed Bd.named Bd.method).1
  have hlk : meth.locks = false := BodyLoose.notSynchronized Bd
  have X0 : Stand p l e ({ frames := 0, cells := 0, slots := 0, locals := 0 } : Room) s m #[(.int q1), (.int q2)] below meth c s₁ [] 0 0 := Stand.of_body Bd
  have e0 : s₁.heap = h0 := by rw [← hh, Bd.state]; rfl
  show Go p e below (EndN below s (AnyI h0) ({ frames := 0, cells := 0, slots := 0, locals := 0 } : Room).cells ({ frames := 0, cells := 0, slots := 0, locals := 0 } : Room).slots) (s₁.setTop (entryFrame m #[(.int q1), (.int q2)] 4))
  rw [ef_pick]
  refine g_iload_n X0 hx 1 q2 (hb hby pick_0) rfl rfl ?_
  refine g_bipush X0 hx 3 (7 : Int32) (hb hby pick_1) rfl rfl ?_
  refine g_iand X0 hx 4 (hb hby pick_3) rfl ?_
  refine g_istore_n X0 hx 5 #[.val (.int q1), .val (.int q2), .val (.int (q2 &&& (7 : Int32))), .unset] (hb hby pick_4) rfl rfl ?_
  generalize hvs : (q2 &&& (7 : Int32)) = vs
  refine g_iload_n X0 hx 6 vs (hb hby pick_5) rfl rfl ?_
  by_cases c6 : vs = (0 : Int32)
  ·
    refine g_ifN X0 hx 9 (hb hby pick_6) (XT.i0_ne_f c6) rfl ?_
    refine g_iload_n X0 hx 10 q1 (hb hby pick_9) rfl rfl ?_
    refine g_istore_n X0 hx 11 #[.val (.int q1), .val (.int q2), .val (.int vs), .val (.int q1)] (hb hby pick_10) rfl rfl ?_
    refine g_goto X0 hx 114 (hb hby pick_11) (by decide) (by decide) ?_
    refine g_iload_n X0 hx 115 q1 (hb hby pick_114) rfl rfl ?_
    exact Go.retI X0 hx hlk Bd.returns (hb hby pick_115) (by decide) (by decide) ⟨_, rfl, rfl, e0⟩
  ·
    refine g_ifY X0 hx 14 (hb hby pick_6) (XT.i0_ne_t c6) (by decide) (by decide) ?_
    refine g_iload_n X0 hx 15 vs (hb hby pick_14) rfl rfl ?_
    refine g_iconst X0 hx 16 (1 : Int32) (hb hby pick_15) rfl rfl ?_
    by_cases c16 : vs = (1 : Int32)
    ·
      refine g_icmpN X0 hx 19 (hb hby pick_16) (XT.ii_ne_f c16) rfl ?_
      refine g_bipush X0 hx 21 (90 : Int32) (hb hby pick_19) rfl rfl ?_
      refine g_iload_n X0 hx 22 q1 (hb hby pick_21) rfl rfl ?_
      refine g_bipush X0 hx 24 (127 : Int32) (hb hby pick_22) rfl rfl ?_
      refine g_iand X0 hx 25 (hb hby pick_24) rfl ?_
      refine g_iadd X0 hx 26 (hb hby pick_25) rfl ?_
      refine g_istore_n X0 hx 27 #[.val (.int q1), .val (.int q2), .val (.int vs), .val (.int ((90 : Int32) + (q1 &&& (127 : Int32))))] (hb hby pick_26) rfl rfl ?_
      refine g_goto X0 hx 114 (hb hby pick_27) (by decide) (by decide) ?_
      refine g_iload_n X0 hx 115 ((90 : Int32) + (q1 &&& (127 : Int32))) (hb hby pick_114) rfl rfl ?_
      exact Go.retI X0 hx hlk Bd.returns (hb hby pick_115) (by decide) (by decide) ⟨_, rfl, rfl, e0⟩
    ·
      refine g_icmpY X0 hx 30 (hb hby pick_16) (XT.ii_ne_t c16) (by decide) (by decide) ?_
      refine g_iload_n X0 hx 31 vs (hb hby pick_30) rfl rfl ?_
      refine g_iconst X0 hx 32 (2 : Int32) (hb hby pick_31) rfl rfl ?_
      by_cases c32 : vs = (2 : Int32)
      ·
        refine g_icmpN X0 hx 35 (hb hby pick_32) (XT.ii_ne_f c32) rfl ?_
        refine g_sipush X0 hx 38 (200 : Int32) (hb hby pick_35) rfl rfl ?_
        refine g_iload_n X0 hx 39 q1 (hb hby pick_38) rfl rfl ?_
        refine g_bipush X0 hx 41 (7 : Int32) (hb hby pick_39) rfl rfl ?_
        refine g_iand X0 hx 42 (hb hby pick_41) rfl ?_
        refine g_iadd X0 hx 43 (hb hby pick_42) rfl ?_
        refine g_istore_n X0 hx 44 #[.val (.int q1), .val (.int q2), .val (.int vs), .val (.int ((200 : Int32) + (q1 &&& (7 : Int32))))] (hb hby pick_43) rfl rfl ?_
        refine g_goto X0 hx 114 (hb hby pick_44) (by decide) (by decide) ?_
        refine g_iload_n X0 hx 115 ((200 : Int32) + (q1 &&& (7 : Int32))) (hb hby pick_114) rfl rfl ?_
        exact Go.retI X0 hx hlk Bd.returns (hb hby pick_115) (by decide) (by decide) ⟨_, rfl, rfl, e0⟩
      ·
        refine g_icmpY X0 hx 47 (hb hby pick_32) (XT.ii_ne_t c32) (by decide) (by decide) ?_
        refine g_iload_n X0 hx 48 vs (hb hby pick_47) rfl rfl ?_
        refine g_iconst X0 hx 49 (3 : Int32) (hb hby pick_48) rfl rfl ?_
        by_cases c49 : vs = (3 : Int32)
        ·
          refine g_icmpN X0 hx 52 (hb hby pick_49) (XT.ii_ne_f c49) rfl ?_
          refine g_sipush X0 hx 55 (300 : Int32) (hb hby pick_52) rfl rfl ?_
          refine g_iload_n X0 hx 56 q1 (hb hby pick_55) rfl rfl ?_
          refine g_bipush X0 hx 58 (7 : Int32) (hb hby pick_56) rfl rfl ?_
          refine g_iand X0 hx 59 (hb hby pick_58) rfl ?_
          refine g_iadd X0 hx 60 (hb hby pick_59) rfl ?_
          refine g_istore_n X0 hx 61 #[.val (.int q1), .val (.int q2), .val (.int vs), .val (.int ((300 : Int32) + (q1 &&& (7 : Int32))))] (hb hby pick_60) rfl rfl ?_
          refine g_goto X0 hx 114 (hb hby pick_61) (by decide) (by decide) ?_
          refine g_iload_n X0 hx 115 ((300 : Int32) + (q1 &&& (7 : Int32))) (hb hby pick_114) rfl rfl ?_
          exact Go.retI X0 hx hlk Bd.returns (hb hby pick_115) (by decide) (by decide) ⟨_, rfl, rfl, e0⟩
        ·
          refine g_icmpY X0 hx 64 (hb hby pick_49) (XT.ii_ne_t c49) (by decide) (by decide) ?_
          refine g_iload_n X0 hx 65 vs (hb hby pick_64) rfl rfl ?_
          refine g_iconst X0 hx 66 (4 : Int32) (hb hby pick_65) rfl rfl ?_
          by_cases c66 : vs = (4 : Int32)
          ·
            refine g_icmpN X0 hx 69 (hb hby pick_66) (XT.ii_ne_f c66) rfl ?_
            refine g_iload_n X0 hx 70 q1 (hb hby pick_69) rfl rfl ?_
            refine g_sipush X0 hx 73 (255 : Int32) (hb hby pick_70) rfl rfl ?_
            refine g_iand X0 hx 74 (hb hby pick_73) rfl ?_
            refine g_ineg X0 hx 75 (hb hby pick_74) rfl ?_
            refine g_istore_n X0 hx 76 #[.val (.int q1), .val (.int q2), .val (.int vs), .val (.int (-(q1 &&& (255 : Int32))))] (hb hby pick_75) rfl rfl ?_
            refine g_goto X0 hx 114 (hb hby pick_76) (by decide) (by decide) ?_
            refine g_iload_n X0 hx 115 (-(q1 &&& (255 : Int32))) (hb hby pick_114) rfl rfl ?_
            exact Go.retI X0 hx hlk Bd.returns (hb hby pick_115) (by decide) (by decide) ⟨_, rfl, rfl, e0⟩
          ·
            refine g_icmpY X0 hx 79 (hb hby pick_66) (XT.ii_ne_t c66) (by decide) (by decide) ?_
            refine g_iload_n X0 hx 80 vs (hb hby pick_79) rfl rfl ?_
            refine g_iconst X0 hx 81 (5 : Int32) (hb hby pick_80) rfl rfl ?_
            by_cases c81 : vs = (5 : Int32)
            ·
              refine g_icmpN X0 hx 84 (hb hby pick_81) (XT.ii_ne_f c81) rfl ?_
              refine g_sipush X0 hx 87 (1000 : Int32) (hb hby pick_84) rfl rfl ?_
              refine g_iload_n X0 hx 88 q1 (hb hby pick_87) rfl rfl ?_
              refine g_sipush X0 hx 91 (1023 : Int32) (hb hby pick_88) rfl rfl ?_
              refine g_iand X0 hx 92 (hb hby pick_91) rfl ?_
              refine g_iadd X0 hx 93 (hb hby pick_92) rfl ?_
              refine g_istore_n X0 hx 94 #[.val (.int q1), .val (.int q2), .val (.int vs), .val (.int ((1000 : Int32) + (q1 &&& (1023 : Int32))))] (hb hby pick_93) rfl rfl ?_
              refine g_goto X0 hx 114 (hb hby pick_94) (by decide) (by decide) ?_
              refine g_iload_n X0 hx 115 ((1000 : Int32) + (q1 &&& (1023 : Int32))) (hb hby pick_114) rfl rfl ?_
              exact Go.retI X0 hx hlk Bd.returns (hb hby pick_115) (by decide) (by decide) ⟨_, rfl, rfl, e0⟩
            ·
              refine g_icmpY X0 hx 97 (hb hby pick_81) (XT.ii_ne_t c81) (by decide) (by decide) ?_
              refine g_iload_n X0 hx 98 vs (hb hby pick_97) rfl rfl ?_
              refine g_bipush X0 hx 100 (6 : Int32) (hb hby pick_98) rfl rfl ?_
              by_cases c100 : vs = (6 : Int32)
              ·
                refine g_icmpN X0 hx 103 (hb hby pick_100) (XT.ii_ne_f c100) rfl ?_
                refine g_iload_n X0 hx 104 q1 (hb hby pick_103) rfl rfl ?_
                refine g_sipush X0 hx 107 (1023 : Int32) (hb hby pick_104) rfl rfl ?_
                refine g_iand X0 hx 108 (hb hby pick_107) rfl ?_
                refine g_istore_n X0 hx 109 #[.val (.int q1), .val (.int q2), .val (.int vs), .val (.int (q1 &&& (1023 : Int32)))] (hb hby pick_108) rfl rfl ?_
                refine g_goto X0 hx 114 (hb hby pick_109) (by decide) (by decide) ?_
                refine g_iload_n X0 hx 115 (q1 &&& (1023 : Int32)) (hb hby pick_114) rfl rfl ?_
                exact Go.retI X0 hx hlk Bd.returns (hb hby pick_115) (by decide) (by decide) ⟨_, rfl, rfl, e0⟩
              ·
                refine g_icmpY X0 hx 112 (hb hby pick_100) (XT.ii_ne_t c100) (by decide) (by decide) ?_
                refine g_iload_n X0 hx 113 q1 (hb hby pick_112) rfl rfl ?_
                refine g_istore_n X0 hx 114 #[.val (.int q1), .val (.int q2), .val (.int vs), .val (.int q1)] (hb hby pick_113) rfl rfl ?_
                refine g_iload_n X0 hx 115 q1 (hb hby pick_114) rfl rfl ?_
                exact Go.retI X0 hx hlk Bd.returns (hb hby pick_115) (by decide) (by decide) ⟨_, rfl, rfl, e0⟩
theorem body_0 : decode prog_73_method_8_code 0 = .ok (.iload_n 1, 1) := by decide +kernel
theorem body_1 : decode prog_73_method_8_code 1 = .ok (.ifCond .ne 25, 3) := by decide +kernel
theorem body_4 : decode prog_73_method_8_code 4 = .ok (.iload_n 0, 1) := by decide +kernel
theorem body_5 : decode prog_73_method_8_code 5 = .ok (.bipush 100, 2) := by decide +kernel
theorem body_7 : decode prog_73_method_8_code 7 = .ok (.idiv, 1) := by decide +kernel
theorem body_8 : decode prog_73_method_8_code 8 = .ok (.iconst 1, 1) := by decide +kernel
theorem body_9 : decode prog_73_method_8_code 9 = .ok (.if_icmp .eq 17, 3) := by decide +kernel
theorem body_12 : decode prog_73_method_8_code 12 = .ok (.iload_n 0, 1) := by decide +kernel
theorem body_13 : decode prog_73_method_8_code 13 = .ok (.sipush 204, 3) := by decide +kernel
theorem body_16 : decode prog_73_method_8_code 16 = .ok (.if_icmp .eq 10, 3) := by decide +kernel
theorem body_19 : decode prog_73_method_8_code 19 = .ok (.iload_n 0, 1) := by decide +kernel
theorem body_20 : decode prog_73_method_8_code 20 = .ok (.sipush 304, 3) := by decide +kernel
theorem body_23 : decode prog_73_method_8_code 23 = .ok (.if_icmp .ne 7, 3) := by decide +kernel
theorem body_26 : decode prog_73_method_8_code 26 = .ok (.iconst 1, 1) := by decide +kernel
theorem body_27 : decode prog_73_method_8_code 27 = .ok (.goto 4, 3) := by decide +kernel
theorem body_30 : decode prog_73_method_8_code 30 = .ok (.iconst 0, 1) := by decide +kernel
theorem body_31 : decode prog_73_method_8_code 31 = .ok (.ireturn, 1) := by decide +kernel
theorem pn_body : plainFor (⟨"com/example/modest_broker/modestbroker/server/Http1Syntax", "bodyless", "(IZ)Z"⟩ : MethodName) = true := by first | exact plainFor_of_name (by first | (simp [plainName, overriddenIn]; done) | decide +kernel) | decide +kernel
theorem ef_body (m : MethodId) (q1 : Int32) (q2 : Int32) : entryFrame m #[(.int q1), (.int q2)] 2 = mkF m 0 #[.val (.int q1), .val (.int q2)] [] := by first | (simp [entryFrame, mkF, argsToLocals, Value.category, maxLocals]; done) | rfl
theorem pd_body : parseMethodDescriptor "(IZ)Z" = some ⟨[.int, .boolean], some (.boolean)⟩ := by decide +kernel
set_option maxRecDepth 65536 in
set_option maxHeartbeats 40000000 in
theorem rm_body (l : Launch) (Z : State) (a0 : Array Value) (hw : ∀ d ∈ tables_1, d.before a0 Z = true)  (q1 : Int32) (q2 : Int32) (h0 : Heap)  :
    MetFree l (⟨"com/example/modest_broker/modestbroker/server/Http1Syntax", "bodyless", "(IZ)Z"⟩ : MethodName) (head1 [Jvm.Cond.code (⟨"com/example/modest_broker/modestbroker/server/Http1Syntax", "bodyless", "(IZ)Z"⟩ : MethodName) prog_73_method_8_code 2 (some Jvm.ClassFile.FieldType.boolean)] ({ frames := 0, cells := 0, slots := 0, locals := 0 } : Room)) (fun a U => a = #[(.int q1), (.int q2)] ∧ Z.Warmed39 U.vm ∧ U.heap = h0) (fun _ _ _ _ _ => True) (fun _ U o U' => ∃ v L, o = .returned v ∧ Pur (some (.int (b2i (¬ q2 = (0 : Int32) ∨ q1 / (100 : Int32) = (1 : Int32) ∨ q1 = (204 : Int32) ∨ q1 = (304 : Int32))))) h0 v U'.heap L ∧ FrameEnd U o U' L ({ frames := 0, cells := 0, slots := 0, locals := 0 } : Room).cells ({ frames := 0, cells := 0, slots := 0, locals := 0 } : Room).slots) := by
  refine MetFree.of_bodySF pn_body hisR ?_
  intro p e s m args below meth c s₁ Bd hml0 hP hK
  obtain ⟨rfl, hZ, hh⟩ := hP
  have hx := Bd.exec
  have hby := Bd.bytes
  have hml : c.maxLocals = 2 := hml0
  have hown : s.vm.findClass "com/example/modest_broker/modestbroker/server/Http1Syntax" = some m.cls := findClass_of_methodNamed Bd.named
  have hnm := (name_of_methodNamed Bd.named Bd.method).1
  have hlk : meth.locks = false := BodyLoose.notSynchronized Bd
  have X0 : Stand p l e ({ frames := 0, cells := 0, slots := 0, locals := 0 } : Room) s m #[(.int q1), (.int q2)] below meth c s₁ [] 0 0 := Stand.of_body Bd
  have e0 : s₁.heap = h0 := by rw [← hh, Bd.state]; rfl
  show Go p e below (EndN below s (Pur (some (.int (b2i (¬ q2 = (0 : Int32) ∨ q1 / (100 : Int32) = (1 : Int32) ∨ q1 = (204 : Int32) ∨ q1 = (304 : Int32))))) h0) ({ frames := 0, cells := 0, slots := 0, locals := 0 } : Room).cells ({ frames := 0, cells := 0, slots := 0, locals := 0 } : Room).slots) (s₁.setTop (entryFrame m #[(.int q1), (.int q2)] 2))
  rw [ef_body]
  refine g_iload_n X0 hx 1 q2 (hb hby body_0) rfl rfl ?_
  by_cases c1 : q2 = (0 : Int32)
  ·
    refine g_ifN X0 hx 4 (hb hby body_1) (XT.i0_ne_f c1) rfl ?_
    refine g_iload_n X0 hx 5 q1 (hb hby body_4) rfl rfl ?_
    refine g_bipush X0 hx 7 (100 : Int32) (hb hby body_5) rfl rfl ?_
    refine g_idiv X0 hx 8 (hb hby body_7) (by decide) rfl ?_
    refine g_iconst X0 hx 9 (1 : Int32) (hb hby body_8) rfl rfl ?_
    by_cases c9 : (q1 / (100 : Int32)) = (1 : Int32)
    ·
      refine g_icmpY X0 hx 26 (hb hby body_9) (XT.ii_eq_t c9) (by decide) (by decide) ?_
      refine g_iconst X0 hx 27 (1 : Int32) (hb hby body_26) rfl rfl ?_
      refine g_goto X0 hx 31 (hb hby body_27) (by decide) (by decide) ?_
      exact Go.retZ X0 hx hlk Bd.returns (by simp) (hb hby body_31) (by decide) (by decide) ⟨by rw [b2i_t (by simp [c1, c9])]; rfl, rfl, e0⟩
    ·
      refine g_icmpN X0 hx 12 (hb hby body_9) (XT.ii_eq_f c9) rfl ?_
      refine g_iload_n X0 hx 13 q1 (hb hby body_12) rfl rfl ?_
      refine g_sipush X0 hx 16 (204 : Int32) (hb hby body_13) rfl rfl ?_
      by_cases c16 : q1 = (204 : Int32)
      ·
        refine g_icmpY X0 hx 26 (hb hby body_16) (XT.ii_eq_t c16) (by decide) (by decide) ?_
        refine g_iconst X0 hx 27 (1 : Int32) (hb hby body_26) rfl rfl ?_
        refine g_goto X0 hx 31 (hb hby body_27) (by decide) (by decide) ?_
        exact Go.retZ X0 hx hlk Bd.returns (by simp) (hb hby body_31) (by decide) (by decide) ⟨by rw [b2i_t (by simp [c1, c9, c16])]; rfl, rfl, e0⟩
      ·
        refine g_icmpN X0 hx 19 (hb hby body_16) (XT.ii_eq_f c16) rfl ?_
        refine g_iload_n X0 hx 20 q1 (hb hby body_19) rfl rfl ?_
        refine g_sipush X0 hx 23 (304 : Int32) (hb hby body_20) rfl rfl ?_
        by_cases c23 : q1 = (304 : Int32)
        ·
          refine g_icmpN X0 hx 26 (hb hby body_23) (XT.ii_ne_f c23) rfl ?_
          refine g_iconst X0 hx 27 (1 : Int32) (hb hby body_26) rfl rfl ?_
          refine g_goto X0 hx 31 (hb hby body_27) (by decide) (by decide) ?_
          exact Go.retZ X0 hx hlk Bd.returns (by simp) (hb hby body_31) (by decide) (by decide) ⟨by rw [b2i_t (by simp [c1, c9, c16, c23])]; rfl, rfl, e0⟩
        ·
          refine g_icmpY X0 hx 30 (hb hby body_23) (XT.ii_ne_t c23) (by decide) (by decide) ?_
          refine g_iconst X0 hx 31 (0 : Int32) (hb hby body_30) rfl rfl ?_
          exact Go.retZ X0 hx hlk Bd.returns (by simp) (hb hby body_31) (by decide) (by decide) ⟨by rw [b2i_f (by simp [c1, c9, c16, c23])]; rfl, rfl, e0⟩
  ·
    refine g_ifY X0 hx 26 (hb hby body_1) (XT.i0_ne_t c1) (by decide) (by decide) ?_
    refine g_iconst X0 hx 27 (1 : Int32) (hb hby body_26) rfl rfl ?_
    refine g_goto X0 hx 31 (hb hby body_27) (by decide) (by decide) ?_
    exact Go.retZ X0 hx hlk Bd.returns (by simp) (hb hby body_31) (by decide) (by decide) ⟨by rw [b2i_t (by simp [c1])]; rfl, rfl, e0⟩
theorem pn_law : plainFor x = true := by first | exact plainFor_of_name (by first | (simp [plainName, overriddenIn]; done) | decide +kernel) | decide +kernel
theorem ef_law (m : MethodId) (q1 : Int32) (q2 : Int32) (q3 : Int32) : entryFrame m #[(.int q1), (.int q2), (.int q3)] maxLocals = mkF m 0 #[.val (.int q1), .val (.int q2), .val (.int q3), .unset, .unset, .unset, .unset] [] := by first | (simp [entryFrame, mkF, argsToLocals, Value.category, maxLocals]; done) | rfl
theorem pd_law : parseMethodDescriptor "(III)Z" = some ⟨[.int, .int, .int], some (.boolean)⟩ := by decide +kernel
set_option maxRecDepth 65536 in
set_option maxHeartbeats 40000000 in
theorem rm_law (l : Launch) (Z : State) (a0 : Array Value) (hw : ∀ d ∈ tables_1, d.before a0 Z = true) (ws : List Jvm.Cond) (q1 : Int32) (q2 : Int32) (q3 : Int32) (h0 : Heap)  :
    MetFree l x (head1 (Jvm.Cond.code x code maxLocals ret :: ws) room_1) (fun a U => a = #[(.int q1), (.int q2), (.int q3)] ∧ Z.Warmed39 U.vm ∧ U.heap = h0) (fun _ _ _ _ _ => True) (fun _ U o U' => ∃ v L, o = .returned v ∧ LQ h0 v U'.heap L ∧ FrameEnd U o U' L 0 0) := by
  refine MetFree.of_bodySF pn_law hisR ?_
  intro p e s m args below meth c s₁ Bd hml0 hP hK
  obtain ⟨rfl, hZ, hh⟩ := hP
  have hx := Bd.exec
  have hby := Bd.bytes
  have hml : c.maxLocals = 7 := hml0
  have hown : s.vm.findClass "com/example/modest_broker/modestbroker/server/Http1SyntaxBodylessPinLaw" = some m.cls := findClass_of_methodNamed Bd.named
  have hnm := (name_of_methodNamed Bd.named Bd.method).1
  have hlk : meth.locks = false := BodyLoose.notSynchronized Bd
  have X0 : Stand p l e room_1 s m #[(.int q1), (.int q2), (.int q3)] below meth c s₁ [] 0 0 := Stand.of_body Bd
  have e0 : s₁.heap = h0 := by rw [← hh, Bd.state]; rfl
  show Go p e below (EndN below s (LQ h0) 0 0) (s₁.setTop (entryFrame m #[(.int q1), (.int q2), (.int q3)] maxLocals))
  rw [ef_law]
  refine g_iload_n X0 hx 1 q3 (hb hby at_0) rfl rfl ?_
  refine g_iconst X0 hx 2 (1 : Int32) (hb hby at_1) rfl rfl ?_
  refine g_iand X0 hx 3 (hb hby at_2) rfl ?_
  by_cases c3 : (q3 &&& (1 : Int32)) = (0 : Int32)
  ·
    refine g_ifY X0 hx 10 (hb hby at_3) (XT.i0_eq_t c3) (by decide) (by decide) ?_
    refine g_iconst X0 hx 11 (0 : Int32) (hb hby at_10) rfl rfl ?_
    refine g_istore_n X0 hx 12 #[.val (.int q1), .val (.int q2), .val (.int q3), .val (.int (0 : Int32)), .unset, .unset, .unset] (hb hby at_11) rfl rfl ?_
    refine g_iload_n X0 hx 13 q1 (hb hby at_12) rfl rfl ?_
    refine g_iload_n X0 hx 14 q2 (hb hby at_13) rfl rfl ?_
    obtain ⟨_, T14, L14, X14, ⟨vs, rfl, rfl, e14⟩, st14⟩ := g_callS X0 hx hZ (own := "com/example/modest_broker/modestbroker/server/Http1SyntaxBodylessPinLaw") (index := 7) (y := (⟨"com/example/modest_broker/modestbroker/server/Http1SyntaxBodylessPinLaw", "pickStatus", "(II)I"⟩ : MethodName)) (as' := [(.int q1), (.int q2)]) hown (hw _ (List.mem_of_getElem? (i := 0) rfl)) (hw _ (List.mem_of_getElem? (i := 1) rfl)) (hw _ (List.mem_of_getElem? (i := 2) rfl)) (hw _ (List.mem_of_getElem? (i := 3) rfl)) (by decide) e0 (rm_pick l Z a0 hw q1 q2 h0) pd_pick rfl 0 (by decide) (by decide) (by decide) (by decide) (pc := 14) (Ls := #[.val (.int q1), .val (.int q2), .val (.int q3), .val (.int (0 : Int32)), .unset, .unset, .unset]) (rest := []) (st := [(.int q2), (.int q1)]) (by rw [hml]; rfl) rfl (by decide) (hb hby at_14)
    rw [List.append_nil] at X14
    refine Go.of ?_ st14
    show Go p e below _ (T14.setTop (mkF m 17 #[.val (.int q1), .val (.int q2), .val (.int q3), .val (.int (0 : Int32)), .unset, .unset, .unset] [(.int vs)]))
    refine g_istore X14 hx 19 #[.val (.int q1), .val (.int q2), .val (.int q3), .val (.int (0 : Int32)), .val (.int vs), .unset, .unset] (hb hby at_17) rfl rfl ?_
    refine g_iload X14 hx 21 vs (hb hby at_19) rfl rfl ?_
    refine g_bipush X14 hx 23 (100 : Int32) (hb hby at_21) rfl rfl ?_
    by_cases c23 : vs < (100 : Int32)
    ·
      refine g_icmpY X14 hx 38 (hb hby at_23) (XT.ii_lt_t c23) (by decide) (by decide) ?_
      refine g_iconst X14 hx 39 (0 : Int32) (hb hby at_38) rfl rfl ?_
      refine g_istore X14 hx 41 #[.val (.int q1), .val (.int q2), .val (.int q3), .val (.int (0 : Int32)), .val (.int vs), .val (.int (0 : Int32)), .unset] (hb hby at_39) rfl rfl ?_
      refine g_iload_n X14 hx 42 (0 : Int32) (hb hby at_41) rfl rfl ?_
      refine g_ifN X14 hx 45 (hb hby at_42) (XT.i0_ne_f (by decide)) rfl ?_
      refine g_iload X14 hx 47 (0 : Int32) (hb hby at_45) rfl rfl ?_
      refine g_ifN X14 hx 50 (hb hby at_47) (XT.i0_ne_f (by decide)) rfl ?_
      refine g_iload X14 hx 52 vs (hb hby at_50) rfl rfl ?_
      refine g_sipush X14 hx 55 (204 : Int32) (hb hby at_52) rfl rfl ?_
      by_cases c55 : vs = (204 : Int32)
      ·
        refine g_icmpY X14 hx 66 (hb hby at_55) (XT.ii_eq_t c55) (by decide) (by decide) ?_
        refine g_iconst X14 hx 67 (1 : Int32) (hb hby at_66) rfl rfl ?_
        refine g_goto X14 hx 71 (hb hby at_67) (by decide) (by decide) ?_
        refine g_istore X14 hx 73 #[.val (.int q1), .val (.int q2), .val (.int q3), .val (.int (0 : Int32)), .val (.int vs), .val (.int (0 : Int32)), .val (.int (1 : Int32))] (hb hby at_71) rfl rfl ?_
        refine g_iload X14 hx 75 vs (hb hby at_73) rfl rfl ?_
        refine g_iload_n X14 hx 76 (0 : Int32) (hb hby at_75) rfl rfl ?_
        obtain ⟨T_76, X_76, e_76, st_76⟩ := g_callSP X14 hx hZ (own := "com/example/modest_broker/modestbroker/server/Http1SyntaxBodylessPinLaw") (index := 13) (y := (⟨"com/example/modest_broker/modestbroker/server/Http1Syntax", "bodyless", "(IZ)Z"⟩ : MethodName)) (as' := [(.int vs), (.int (0 : Int32))]) (w := some (.int (b2i (¬ (0 : Int32) = (0 : Int32) ∨ vs / (100 : Int32) = (1 : Int32) ∨ vs = (204 : Int32) ∨ vs = (304 : Int32))))) hown (hw _ (List.mem_of_getElem? (i := 4) rfl)) (hw _ (List.mem_of_getElem? (i := 5) rfl)) (hw _ (List.mem_of_getElem? (i := 6) rfl)) (hw _ (List.mem_of_getElem? (i := 7) rfl)) (by decide) e14 (rm_body l Z a0 hw vs (0 : Int32) h0 ) pd_body rfl 0 (by decide) (by decide) (by decide) (by decide) rfl rfl (pc := 76) (pc' := 79) (Ls := #[.val (.int q1), .val (.int q2), .val (.int q3), .val (.int (0 : Int32)), .val (.int vs), .val (.int (0 : Int32)), .val (.int (1 : Int32))]) (rest := []) (st := [(.int (0 : Int32)), (.int vs)]) (by rw [hml]; rfl) rfl (by decide) (hb hby at_76) rfl
        refine st_76 ?_
        show Go p e below _ (T_76.setTop (mkF m 79 #[.val (.int q1), .val (.int q2), .val (.int q3), .val (.int (0 : Int32)), .val (.int vs), .val (.int (0 : Int32)), .val (.int (1 : Int32))] [(.int (b2i (¬ (0 : Int32) = (0 : Int32) ∨ vs / (100 : Int32) = (1 : Int32) ∨ vs = (204 : Int32) ∨ vs = (304 : Int32))))]))
        refine g_iload X_76 hx 81 (1 : Int32) (hb hby at_79) rfl rfl ?_
        refine g_icmpN X_76 hx 84 (hb hby at_81) (XT.ii_ne_f (b2i_t (by rw [own_d100]; simp [c23, c55]))) rfl ?_
        refine g_iconst X_76 hx 85 (1 : Int32) (hb hby at_84) rfl rfl ?_
        refine g_goto X_76 hx 89 (hb hby at_85) (by decide) (by decide) ?_
        exact Go.ret X_76 hx hlk Bd.returns (hb hby at_89) rfl (Or.inl ⟨rfl, by decide, _, rfl⟩) (by decide) (by decide) ⟨rfl, Fr.nil _⟩
      ·
        refine g_icmpN X14 hx 58 (hb hby at_55) (XT.ii_eq_f c55) rfl ?_
        refine g_iload X14 hx 60 vs (hb hby at_58) rfl rfl ?_
        refine g_sipush X14 hx 63 (304 : Int32) (hb hby at_60) rfl rfl ?_
        by_cases c63 : vs = (304 : Int32)
        ·
          refine g_icmpN X14 hx 66 (hb hby at_63) (XT.ii_ne_f c63) rfl ?_
          refine g_iconst X14 hx 67 (1 : Int32) (hb hby at_66) rfl rfl ?_
          refine g_goto X14 hx 71 (hb hby at_67) (by decide) (by decide) ?_
          refine g_istore X14 hx 73 #[.val (.int q1), .val (.int q2), .val (.int q3), .val (.int (0 : Int32)), .val (.int vs), .val (.int (0 : Int32)), .val (.int (1 : Int32))] (hb hby at_71) rfl rfl ?_
          refine g_iload X14 hx 75 vs (hb hby at_73) rfl rfl ?_
          refine g_iload_n X14 hx 76 (0 : Int32) (hb hby at_75) rfl rfl ?_
          obtain ⟨T_76, X_76, e_76, st_76⟩ := g_callSP X14 hx hZ (own := "com/example/modest_broker/modestbroker/server/Http1SyntaxBodylessPinLaw") (index := 13) (y := (⟨"com/example/modest_broker/modestbroker/server/Http1Syntax", "bodyless", "(IZ)Z"⟩ : MethodName)) (as' := [(.int vs), (.int (0 : Int32))]) (w := some (.int (b2i (¬ (0 : Int32) = (0 : Int32) ∨ vs / (100 : Int32) = (1 : Int32) ∨ vs = (204 : Int32) ∨ vs = (304 : Int32))))) hown (hw _ (List.mem_of_getElem? (i := 4) rfl)) (hw _ (List.mem_of_getElem? (i := 5) rfl)) (hw _ (List.mem_of_getElem? (i := 6) rfl)) (hw _ (List.mem_of_getElem? (i := 7) rfl)) (by decide) e14 (rm_body l Z a0 hw vs (0 : Int32) h0 ) pd_body rfl 0 (by decide) (by decide) (by decide) (by decide) rfl rfl (pc := 76) (pc' := 79) (Ls := #[.val (.int q1), .val (.int q2), .val (.int q3), .val (.int (0 : Int32)), .val (.int vs), .val (.int (0 : Int32)), .val (.int (1 : Int32))]) (rest := []) (st := [(.int (0 : Int32)), (.int vs)]) (by rw [hml]; rfl) rfl (by decide) (hb hby at_76) rfl
          refine st_76 ?_
          show Go p e below _ (T_76.setTop (mkF m 79 #[.val (.int q1), .val (.int q2), .val (.int q3), .val (.int (0 : Int32)), .val (.int vs), .val (.int (0 : Int32)), .val (.int (1 : Int32))] [(.int (b2i (¬ (0 : Int32) = (0 : Int32) ∨ vs / (100 : Int32) = (1 : Int32) ∨ vs = (204 : Int32) ∨ vs = (304 : Int32))))]))
          refine g_iload X_76 hx 81 (1 : Int32) (hb hby at_79) rfl rfl ?_
          refine g_icmpN X_76 hx 84 (hb hby at_81) (XT.ii_ne_f (b2i_t (by rw [own_d100]; simp [c23, c55, c63]))) rfl ?_
          refine g_iconst X_76 hx 85 (1 : Int32) (hb hby at_84) rfl rfl ?_
          refine g_goto X_76 hx 89 (hb hby at_85) (by decide) (by decide) ?_
          exact Go.ret X_76 hx hlk Bd.returns (hb hby at_89) rfl (Or.inl ⟨rfl, by decide, _, rfl⟩) (by decide) (by decide) ⟨rfl, Fr.nil _⟩
        ·
          refine g_icmpY X14 hx 70 (hb hby at_63) (XT.ii_ne_t c63) (by decide) (by decide) ?_
          refine g_iconst X14 hx 71 (0 : Int32) (hb hby at_70) rfl rfl ?_
          refine g_istore X14 hx 73 #[.val (.int q1), .val (.int q2), .val (.int q3), .val (.int (0 : Int32)), .val (.int vs), .val (.int (0 : Int32)), .val (.int (0 : Int32))] (hb hby at_71) rfl rfl ?_
          refine g_iload X14 hx 75 vs (hb hby at_73) rfl rfl ?_
          refine g_iload_n X14 hx 76 (0 : Int32) (hb hby at_75) rfl rfl ?_
          obtain ⟨T_76, X_76, e_76, st_76⟩ := g_callSP X14 hx hZ (own := "com/example/modest_broker/modestbroker/server/Http1SyntaxBodylessPinLaw") (index := 13) (y := (⟨"com/example/modest_broker/modestbroker/server/Http1Syntax", "bodyless", "(IZ)Z"⟩ : MethodName)) (as' := [(.int vs), (.int (0 : Int32))]) (w := some (.int (b2i (¬ (0 : Int32) = (0 : Int32) ∨ vs / (100 : Int32) = (1 : Int32) ∨ vs = (204 : Int32) ∨ vs = (304 : Int32))))) hown (hw _ (List.mem_of_getElem? (i := 4) rfl)) (hw _ (List.mem_of_getElem? (i := 5) rfl)) (hw _ (List.mem_of_getElem? (i := 6) rfl)) (hw _ (List.mem_of_getElem? (i := 7) rfl)) (by decide) e14 (rm_body l Z a0 hw vs (0 : Int32) h0 ) pd_body rfl 0 (by decide) (by decide) (by decide) (by decide) rfl rfl (pc := 76) (pc' := 79) (Ls := #[.val (.int q1), .val (.int q2), .val (.int q3), .val (.int (0 : Int32)), .val (.int vs), .val (.int (0 : Int32)), .val (.int (0 : Int32))]) (rest := []) (st := [(.int (0 : Int32)), (.int vs)]) (by rw [hml]; rfl) rfl (by decide) (hb hby at_76) rfl
          refine st_76 ?_
          show Go p e below _ (T_76.setTop (mkF m 79 #[.val (.int q1), .val (.int q2), .val (.int q3), .val (.int (0 : Int32)), .val (.int vs), .val (.int (0 : Int32)), .val (.int (0 : Int32))] [(.int (b2i (¬ (0 : Int32) = (0 : Int32) ∨ vs / (100 : Int32) = (1 : Int32) ∨ vs = (204 : Int32) ∨ vs = (304 : Int32))))]))
          refine g_iload X_76 hx 81 (0 : Int32) (hb hby at_79) rfl rfl ?_
          refine g_icmpN X_76 hx 84 (hb hby at_81) (XT.ii_ne_f (b2i_f (by rw [own_d100]; simp [c23, c55, c63]))) rfl ?_
          refine g_iconst X_76 hx 85 (1 : Int32) (hb hby at_84) rfl rfl ?_
          refine g_goto X_76 hx 89 (hb hby at_85) (by decide) (by decide) ?_
          exact Go.ret X_76 hx hlk Bd.returns (hb hby at_89) rfl (Or.inl ⟨rfl, by decide, _, rfl⟩) (by decide) (by decide) ⟨rfl, Fr.nil _⟩
    ·
      refine g_icmpN X14 hx 26 (hb hby at_23) (XT.ii_lt_f c23) rfl ?_
      refine g_iload X14 hx 28 vs (hb hby at_26) rfl rfl ?_
      refine g_sipush X14 hx 31 (199 : Int32) (hb hby at_28) rfl rfl ?_
      by_cases c31 : (199 : Int32) < vs
      ·
        refine g_icmpY X14 hx 38 (hb hby at_31) (XT.ii_gt_t c31) (by decide) (by decide) ?_
        refine g_iconst X14 hx 39 (0 : Int32) (hb hby at_38) rfl rfl ?_
        refine g_istore X14 hx 41 #[.val (.int q1), .val (.int q2), .val (.int q3), .val (.int (0 : Int32)), .val (.int vs), .val (.int (0 : Int32)), .unset] (hb hby at_39) rfl rfl ?_
        refine g_iload_n X14 hx 42 (0 : Int32) (hb hby at_41) rfl rfl ?_
        refine g_ifN X14 hx 45 (hb hby at_42) (XT.i0_ne_f (by decide)) rfl ?_
        refine g_iload X14 hx 47 (0 : Int32) (hb hby at_45) rfl rfl ?_
        refine g_ifN X14 hx 50 (hb hby at_47) (XT.i0_ne_f (by decide)) rfl ?_
        refine g_iload X14 hx 52 vs (hb hby at_50) rfl rfl ?_
        refine g_sipush X14 hx 55 (204 : Int32) (hb hby at_52) rfl rfl ?_
        by_cases c55 : vs = (204 : Int32)
        ·
          refine g_icmpY X14 hx 66 (hb hby at_55) (XT.ii_eq_t c55) (by decide) (by decide) ?_
          refine g_iconst X14 hx 67 (1 : Int32) (hb hby at_66) rfl rfl ?_
          refine g_goto X14 hx 71 (hb hby at_67) (by decide) (by decide) ?_
          refine g_istore X14 hx 73 #[.val (.int q1), .val (.int q2), .val (.int q3), .val (.int (0 : Int32)), .val (.int vs), .val (.int (0 : Int32)), .val (.int (1 : Int32))] (hb hby at_71) rfl rfl ?_
          refine g_iload X14 hx 75 vs (hb hby at_73) rfl rfl ?_
          refine g_iload_n X14 hx 76 (0 : Int32) (hb hby at_75) rfl rfl ?_
          obtain ⟨T_76, X_76, e_76, st_76⟩ := g_callSP X14 hx hZ (own := "com/example/modest_broker/modestbroker/server/Http1SyntaxBodylessPinLaw") (index := 13) (y := (⟨"com/example/modest_broker/modestbroker/server/Http1Syntax", "bodyless", "(IZ)Z"⟩ : MethodName)) (as' := [(.int vs), (.int (0 : Int32))]) (w := some (.int (b2i (¬ (0 : Int32) = (0 : Int32) ∨ vs / (100 : Int32) = (1 : Int32) ∨ vs = (204 : Int32) ∨ vs = (304 : Int32))))) hown (hw _ (List.mem_of_getElem? (i := 4) rfl)) (hw _ (List.mem_of_getElem? (i := 5) rfl)) (hw _ (List.mem_of_getElem? (i := 6) rfl)) (hw _ (List.mem_of_getElem? (i := 7) rfl)) (by decide) e14 (rm_body l Z a0 hw vs (0 : Int32) h0 ) pd_body rfl 0 (by decide) (by decide) (by decide) (by decide) rfl rfl (pc := 76) (pc' := 79) (Ls := #[.val (.int q1), .val (.int q2), .val (.int q3), .val (.int (0 : Int32)), .val (.int vs), .val (.int (0 : Int32)), .val (.int (1 : Int32))]) (rest := []) (st := [(.int (0 : Int32)), (.int vs)]) (by rw [hml]; rfl) rfl (by decide) (hb hby at_76) rfl
          refine st_76 ?_
          show Go p e below _ (T_76.setTop (mkF m 79 #[.val (.int q1), .val (.int q2), .val (.int q3), .val (.int (0 : Int32)), .val (.int vs), .val (.int (0 : Int32)), .val (.int (1 : Int32))] [(.int (b2i (¬ (0 : Int32) = (0 : Int32) ∨ vs / (100 : Int32) = (1 : Int32) ∨ vs = (204 : Int32) ∨ vs = (304 : Int32))))]))
          refine g_iload X_76 hx 81 (1 : Int32) (hb hby at_79) rfl rfl ?_
          refine g_icmpN X_76 hx 84 (hb hby at_81) (XT.ii_ne_f (b2i_t (by rw [own_d100]; simp [c23, c31, c55]))) rfl ?_
          refine g_iconst X_76 hx 85 (1 : Int32) (hb hby at_84) rfl rfl ?_
          refine g_goto X_76 hx 89 (hb hby at_85) (by decide) (by decide) ?_
          exact Go.ret X_76 hx hlk Bd.returns (hb hby at_89) rfl (Or.inl ⟨rfl, by decide, _, rfl⟩) (by decide) (by decide) ⟨rfl, Fr.nil _⟩
        ·
          refine g_icmpN X14 hx 58 (hb hby at_55) (XT.ii_eq_f c55) rfl ?_
          refine g_iload X14 hx 60 vs (hb hby at_58) rfl rfl ?_
          refine g_sipush X14 hx 63 (304 : Int32) (hb hby at_60) rfl rfl ?_
          by_cases c63 : vs = (304 : Int32)
          ·
            refine g_icmpN X14 hx 66 (hb hby at_63) (XT.ii_ne_f c63) rfl ?_
            refine g_iconst X14 hx 67 (1 : Int32) (hb hby at_66) rfl rfl ?_
            refine g_goto X14 hx 71 (hb hby at_67) (by decide) (by decide) ?_
            refine g_istore X14 hx 73 #[.val (.int q1), .val (.int q2), .val (.int q3), .val (.int (0 : Int32)), .val (.int vs), .val (.int (0 : Int32)), .val (.int (1 : Int32))] (hb hby at_71) rfl rfl ?_
            refine g_iload X14 hx 75 vs (hb hby at_73) rfl rfl ?_
            refine g_iload_n X14 hx 76 (0 : Int32) (hb hby at_75) rfl rfl ?_
            obtain ⟨T_76, X_76, e_76, st_76⟩ := g_callSP X14 hx hZ (own := "com/example/modest_broker/modestbroker/server/Http1SyntaxBodylessPinLaw") (index := 13) (y := (⟨"com/example/modest_broker/modestbroker/server/Http1Syntax", "bodyless", "(IZ)Z"⟩ : MethodName)) (as' := [(.int vs), (.int (0 : Int32))]) (w := some (.int (b2i (¬ (0 : Int32) = (0 : Int32) ∨ vs / (100 : Int32) = (1 : Int32) ∨ vs = (204 : Int32) ∨ vs = (304 : Int32))))) hown (hw _ (List.mem_of_getElem? (i := 4) rfl)) (hw _ (List.mem_of_getElem? (i := 5) rfl)) (hw _ (List.mem_of_getElem? (i := 6) rfl)) (hw _ (List.mem_of_getElem? (i := 7) rfl)) (by decide) e14 (rm_body l Z a0 hw vs (0 : Int32) h0 ) pd_body rfl 0 (by decide) (by decide) (by decide) (by decide) rfl rfl (pc := 76) (pc' := 79) (Ls := #[.val (.int q1), .val (.int q2), .val (.int q3), .val (.int (0 : Int32)), .val (.int vs), .val (.int (0 : Int32)), .val (.int (1 : Int32))]) (rest := []) (st := [(.int (0 : Int32)), (.int vs)]) (by rw [hml]; rfl) rfl (by decide) (hb hby at_76) rfl
            refine st_76 ?_
            show Go p e below _ (T_76.setTop (mkF m 79 #[.val (.int q1), .val (.int q2), .val (.int q3), .val (.int (0 : Int32)), .val (.int vs), .val (.int (0 : Int32)), .val (.int (1 : Int32))] [(.int (b2i (¬ (0 : Int32) = (0 : Int32) ∨ vs / (100 : Int32) = (1 : Int32) ∨ vs = (204 : Int32) ∨ vs = (304 : Int32))))]))
            refine g_iload X_76 hx 81 (1 : Int32) (hb hby at_79) rfl rfl ?_
            refine g_icmpN X_76 hx 84 (hb hby at_81) (XT.ii_ne_f (b2i_t (by rw [own_d100]; simp [c23, c31, c55, c63]))) rfl ?_
            refine g_iconst X_76 hx 85 (1 : Int32) (hb hby at_84) rfl rfl ?_
            refine g_goto X_76 hx 89 (hb hby at_85) (by decide) (by decide) ?_
            exact Go.ret X_76 hx hlk Bd.returns (hb hby at_89) rfl (Or.inl ⟨rfl, by decide, _, rfl⟩) (by decide) (by decide) ⟨rfl, Fr.nil _⟩
          ·
            refine g_icmpY X14 hx 70 (hb hby at_63) (XT.ii_ne_t c63) (by decide) (by decide) ?_
            refine g_iconst X14 hx 71 (0 : Int32) (hb hby at_70) rfl rfl ?_
            refine g_istore X14 hx 73 #[.val (.int q1), .val (.int q2), .val (.int q3), .val (.int (0 : Int32)), .val (.int vs), .val (.int (0 : Int32)), .val (.int (0 : Int32))] (hb hby at_71) rfl rfl ?_
            refine g_iload X14 hx 75 vs (hb hby at_73) rfl rfl ?_
            refine g_iload_n X14 hx 76 (0 : Int32) (hb hby at_75) rfl rfl ?_
            obtain ⟨T_76, X_76, e_76, st_76⟩ := g_callSP X14 hx hZ (own := "com/example/modest_broker/modestbroker/server/Http1SyntaxBodylessPinLaw") (index := 13) (y := (⟨"com/example/modest_broker/modestbroker/server/Http1Syntax", "bodyless", "(IZ)Z"⟩ : MethodName)) (as' := [(.int vs), (.int (0 : Int32))]) (w := some (.int (b2i (¬ (0 : Int32) = (0 : Int32) ∨ vs / (100 : Int32) = (1 : Int32) ∨ vs = (204 : Int32) ∨ vs = (304 : Int32))))) hown (hw _ (List.mem_of_getElem? (i := 4) rfl)) (hw _ (List.mem_of_getElem? (i := 5) rfl)) (hw _ (List.mem_of_getElem? (i := 6) rfl)) (hw _ (List.mem_of_getElem? (i := 7) rfl)) (by decide) e14 (rm_body l Z a0 hw vs (0 : Int32) h0 ) pd_body rfl 0 (by decide) (by decide) (by decide) (by decide) rfl rfl (pc := 76) (pc' := 79) (Ls := #[.val (.int q1), .val (.int q2), .val (.int q3), .val (.int (0 : Int32)), .val (.int vs), .val (.int (0 : Int32)), .val (.int (0 : Int32))]) (rest := []) (st := [(.int (0 : Int32)), (.int vs)]) (by rw [hml]; rfl) rfl (by decide) (hb hby at_76) rfl
            refine st_76 ?_
            show Go p e below _ (T_76.setTop (mkF m 79 #[.val (.int q1), .val (.int q2), .val (.int q3), .val (.int (0 : Int32)), .val (.int vs), .val (.int (0 : Int32)), .val (.int (0 : Int32))] [(.int (b2i (¬ (0 : Int32) = (0 : Int32) ∨ vs / (100 : Int32) = (1 : Int32) ∨ vs = (204 : Int32) ∨ vs = (304 : Int32))))]))
            refine g_iload X_76 hx 81 (0 : Int32) (hb hby at_79) rfl rfl ?_
            refine g_icmpN X_76 hx 84 (hb hby at_81) (XT.ii_ne_f (b2i_f (by rw [own_d100]; simp [c23, c31, c55, c63]))) rfl ?_
            refine g_iconst X_76 hx 85 (1 : Int32) (hb hby at_84) rfl rfl ?_
            refine g_goto X_76 hx 89 (hb hby at_85) (by decide) (by decide) ?_
            exact Go.ret X_76 hx hlk Bd.returns (hb hby at_89) rfl (Or.inl ⟨rfl, by decide, _, rfl⟩) (by decide) (by decide) ⟨rfl, Fr.nil _⟩
      ·
        refine g_icmpN X14 hx 34 (hb hby at_31) (XT.ii_gt_f c31) rfl ?_
        refine g_iconst X14 hx 35 (1 : Int32) (hb hby at_34) rfl rfl ?_
        refine g_goto X14 hx 39 (hb hby at_35) (by decide) (by decide) ?_
        refine g_istore X14 hx 41 #[.val (.int q1), .val (.int q2), .val (.int q3), .val (.int (0 : Int32)), .val (.int vs), .val (.int (1 : Int32)), .unset] (hb hby at_39) rfl rfl ?_
        refine g_iload_n X14 hx 42 (0 : Int32) (hb hby at_41) rfl rfl ?_
        refine g_ifN X14 hx 45 (hb hby at_42) (XT.i0_ne_f (by decide)) rfl ?_
        refine g_iload X14 hx 47 (1 : Int32) (hb hby at_45) rfl rfl ?_
        refine g_ifY X14 hx 66 (hb hby at_47) (XT.i0_ne_t (by decide)) (by decide) (by decide) ?_
        refine g_iconst X14 hx 67 (1 : Int32) (hb hby at_66) rfl rfl ?_
        refine g_goto X14 hx 71 (hb hby at_67) (by decide) (by decide) ?_
        refine g_istore X14 hx 73 #[.val (.int q1), .val (.int q2), .val (.int q3), .val (.int (0 : Int32)), .val (.int vs), .val (.int (1 : Int32)), .val (.int (1 : Int32))] (hb hby at_71) rfl rfl ?_
        refine g_iload X14 hx 75 vs (hb hby at_73) rfl rfl ?_
        refine g_iload_n X14 hx 76 (0 : Int32) (hb hby at_75) rfl rfl ?_
        obtain ⟨T_76, X_76, e_76, st_76⟩ := g_callSP X14 hx hZ (own := "com/example/modest_broker/modestbroker/server/Http1SyntaxBodylessPinLaw") (index := 13) (y := (⟨"com/example/modest_broker/modestbroker/server/Http1Syntax", "bodyless", "(IZ)Z"⟩ : MethodName)) (as' := [(.int vs), (.int (0 : Int32))]) (w := some (.int (b2i (¬ (0 : Int32) = (0 : Int32) ∨ vs / (100 : Int32) = (1 : Int32) ∨ vs = (204 : Int32) ∨ vs = (304 : Int32))))) hown (hw _ (List.mem_of_getElem? (i := 4) rfl)) (hw _ (List.mem_of_getElem? (i := 5) rfl)) (hw _ (List.mem_of_getElem? (i := 6) rfl)) (hw _ (List.mem_of_getElem? (i := 7) rfl)) (by decide) e14 (rm_body l Z a0 hw vs (0 : Int32) h0 ) pd_body rfl 0 (by decide) (by decide) (by decide) (by decide) rfl rfl (pc := 76) (pc' := 79) (Ls := #[.val (.int q1), .val (.int q2), .val (.int q3), .val (.int (0 : Int32)), .val (.int vs), .val (.int (1 : Int32)), .val (.int (1 : Int32))]) (rest := []) (st := [(.int (0 : Int32)), (.int vs)]) (by rw [hml]; rfl) rfl (by decide) (hb hby at_76) rfl
        refine st_76 ?_
        show Go p e below _ (T_76.setTop (mkF m 79 #[.val (.int q1), .val (.int q2), .val (.int q3), .val (.int (0 : Int32)), .val (.int vs), .val (.int (1 : Int32)), .val (.int (1 : Int32))] [(.int (b2i (¬ (0 : Int32) = (0 : Int32) ∨ vs / (100 : Int32) = (1 : Int32) ∨ vs = (204 : Int32) ∨ vs = (304 : Int32))))]))
        refine g_iload X_76 hx 81 (1 : Int32) (hb hby at_79) rfl rfl ?_
        refine g_icmpN X_76 hx 84 (hb hby at_81) (XT.ii_ne_f (b2i_t (by rw [own_d100]; simp [c23, c31]))) rfl ?_
        refine g_iconst X_76 hx 85 (1 : Int32) (hb hby at_84) rfl rfl ?_
        refine g_goto X_76 hx 89 (hb hby at_85) (by decide) (by decide) ?_
        exact Go.ret X_76 hx hlk Bd.returns (hb hby at_89) rfl (Or.inl ⟨rfl, by decide, _, rfl⟩) (by decide) (by decide) ⟨rfl, Fr.nil _⟩
  ·
    refine g_ifN X0 hx 6 (hb hby at_3) (XT.i0_eq_f c3) rfl ?_
    refine g_iconst X0 hx 7 (1 : Int32) (hb hby at_6) rfl rfl ?_
    refine g_goto X0 hx 11 (hb hby at_7) (by decide) (by decide) ?_
    refine g_istore_n X0 hx 12 #[.val (.int q1), .val (.int q2), .val (.int q3), .val (.int (1 : Int32)), .unset, .unset, .unset] (hb hby at_11) rfl rfl ?_
    refine g_iload_n X0 hx 13 q1 (hb hby at_12) rfl rfl ?_
    refine g_iload_n X0 hx 14 q2 (hb hby at_13) rfl rfl ?_
    obtain ⟨_, T14, L14, X14, ⟨vs, rfl, rfl, e14⟩, st14⟩ := g_callS X0 hx hZ (own := "com/example/modest_broker/modestbroker/server/Http1SyntaxBodylessPinLaw") (index := 7) (y := (⟨"com/example/modest_broker/modestbroker/server/Http1SyntaxBodylessPinLaw", "pickStatus", "(II)I"⟩ : MethodName)) (as' := [(.int q1), (.int q2)]) hown (hw _ (List.mem_of_getElem? (i := 0) rfl)) (hw _ (List.mem_of_getElem? (i := 1) rfl)) (hw _ (List.mem_of_getElem? (i := 2) rfl)) (hw _ (List.mem_of_getElem? (i := 3) rfl)) (by decide) e0 (rm_pick l Z a0 hw q1 q2 h0) pd_pick rfl 0 (by decide) (by decide) (by decide) (by decide) (pc := 14) (Ls := #[.val (.int q1), .val (.int q2), .val (.int q3), .val (.int (1 : Int32)), .unset, .unset, .unset]) (rest := []) (st := [(.int q2), (.int q1)]) (by rw [hml]; rfl) rfl (by decide) (hb hby at_14)
    rw [List.append_nil] at X14
    refine Go.of ?_ st14
    show Go p e below _ (T14.setTop (mkF m 17 #[.val (.int q1), .val (.int q2), .val (.int q3), .val (.int (1 : Int32)), .unset, .unset, .unset] [(.int vs)]))
    refine g_istore X14 hx 19 #[.val (.int q1), .val (.int q2), .val (.int q3), .val (.int (1 : Int32)), .val (.int vs), .unset, .unset] (hb hby at_17) rfl rfl ?_
    refine g_iload X14 hx 21 vs (hb hby at_19) rfl rfl ?_
    refine g_bipush X14 hx 23 (100 : Int32) (hb hby at_21) rfl rfl ?_
    by_cases c23 : vs < (100 : Int32)
    ·
      refine g_icmpY X14 hx 38 (hb hby at_23) (XT.ii_lt_t c23) (by decide) (by decide) ?_
      refine g_iconst X14 hx 39 (0 : Int32) (hb hby at_38) rfl rfl ?_
      refine g_istore X14 hx 41 #[.val (.int q1), .val (.int q2), .val (.int q3), .val (.int (1 : Int32)), .val (.int vs), .val (.int (0 : Int32)), .unset] (hb hby at_39) rfl rfl ?_
      refine g_iload_n X14 hx 42 (1 : Int32) (hb hby at_41) rfl rfl ?_
      refine g_ifY X14 hx 66 (hb hby at_42) (XT.i0_ne_t (by decide)) (by decide) (by decide) ?_
      refine g_iconst X14 hx 67 (1 : Int32) (hb hby at_66) rfl rfl ?_
      refine g_goto X14 hx 71 (hb hby at_67) (by decide) (by decide) ?_
      refine g_istore X14 hx 73 #[.val (.int q1), .val (.int q2), .val (.int q3), .val (.int (1 : Int32)), .val (.int vs), .val (.int (0 : Int32)), .val (.int (1 : Int32))] (hb hby at_71) rfl rfl ?_
      refine g_iload X14 hx 75 vs (hb hby at_73) rfl rfl ?_
      refine g_iload_n X14 hx 76 (1 : Int32) (hb hby at_75) rfl rfl ?_
      obtain ⟨T_76, X_76, e_76, st_76⟩ := g_callSP X14 hx hZ (own := "com/example/modest_broker/modestbroker/server/Http1SyntaxBodylessPinLaw") (index := 13) (y := (⟨"com/example/modest_broker/modestbroker/server/Http1Syntax", "bodyless", "(IZ)Z"⟩ : MethodName)) (as' := [(.int vs), (.int (1 : Int32))]) (w := some (.int (b2i (¬ (1 : Int32) = (0 : Int32) ∨ vs / (100 : Int32) = (1 : Int32) ∨ vs = (204 : Int32) ∨ vs = (304 : Int32))))) hown (hw _ (List.mem_of_getElem? (i := 4) rfl)) (hw _ (List.mem_of_getElem? (i := 5) rfl)) (hw _ (List.mem_of_getElem? (i := 6) rfl)) (hw _ (List.mem_of_getElem? (i := 7) rfl)) (by decide) e14 (rm_body l Z a0 hw vs (1 : Int32) h0 ) pd_body rfl 0 (by decide) (by decide) (by decide) (by decide) rfl rfl (pc := 76) (pc' := 79) (Ls := #[.val (.int q1), .val (.int q2), .val (.int q3), .val (.int (1 : Int32)), .val (.int vs), .val (.int (0 : Int32)), .val (.int (1 : Int32))]) (rest := []) (st := [(.int (1 : Int32)), (.int vs)]) (by rw [hml]; rfl) rfl (by decide) (hb hby at_76) rfl
      refine st_76 ?_
      show Go p e below _ (T_76.setTop (mkF m 79 #[.val (.int q1), .val (.int q2), .val (.int q3), .val (.int (1 : Int32)), .val (.int vs), .val (.int (0 : Int32)), .val (.int (1 : Int32))] [(.int (b2i (¬ (1 : Int32) = (0 : Int32) ∨ vs / (100 : Int32) = (1 : Int32) ∨ vs = (204 : Int32) ∨ vs = (304 : Int32))))]))
      refine g_iload X_76 hx 81 (1 : Int32) (hb hby at_79) rfl rfl ?_
      refine g_icmpN X_76 hx 84 (hb hby at_81) (XT.ii_ne_f (b2i_t (by rw [own_d100]; simp [c23]))) rfl ?_
      refine g_iconst X_76 hx 85 (1 : Int32) (hb hby at_84) rfl rfl ?_
      refine g_goto X_76 hx 89 (hb hby at_85) (by decide) (by decide) ?_
      exact Go.ret X_76 hx hlk Bd.returns (hb hby at_89) rfl (Or.inl ⟨rfl, by decide, _, rfl⟩) (by decide) (by decide) ⟨rfl, Fr.nil _⟩
    ·
      refine g_icmpN X14 hx 26 (hb hby at_23) (XT.ii_lt_f c23) rfl ?_
      refine g_iload X14 hx 28 vs (hb hby at_26) rfl rfl ?_
      refine g_sipush X14 hx 31 (199 : Int32) (hb hby at_28) rfl rfl ?_
      by_cases c31 : (199 : Int32) < vs
      ·
        refine g_icmpY X14 hx 38 (hb hby at_31) (XT.ii_gt_t c31) (by decide) (by decide) ?_
        refine g_iconst X14 hx 39 (0 : Int32) (hb hby at_38) rfl rfl ?_
        refine g_istore X14 hx 41 #[.val (.int q1), .val (.int q2), .val (.int q3), .val (.int (1 : Int32)), .val (.int vs), .val (.int (0 : Int32)), .unset] (hb hby at_39) rfl rfl ?_
        refine g_iload_n X14 hx 42 (1 : Int32) (hb hby at_41) rfl rfl ?_
        refine g_ifY X14 hx 66 (hb hby at_42) (XT.i0_ne_t (by decide)) (by decide) (by decide) ?_
        refine g_iconst X14 hx 67 (1 : Int32) (hb hby at_66) rfl rfl ?_
        refine g_goto X14 hx 71 (hb hby at_67) (by decide) (by decide) ?_
        refine g_istore X14 hx 73 #[.val (.int q1), .val (.int q2), .val (.int q3), .val (.int (1 : Int32)), .val (.int vs), .val (.int (0 : Int32)), .val (.int (1 : Int32))] (hb hby at_71) rfl rfl ?_
        refine g_iload X14 hx 75 vs (hb hby at_73) rfl rfl ?_
        refine g_iload_n X14 hx 76 (1 : Int32) (hb hby at_75) rfl rfl ?_
        obtain ⟨T_76, X_76, e_76, st_76⟩ := g_callSP X14 hx hZ (own := "com/example/modest_broker/modestbroker/server/Http1SyntaxBodylessPinLaw") (index := 13) (y := (⟨"com/example/modest_broker/modestbroker/server/Http1Syntax", "bodyless", "(IZ)Z"⟩ : MethodName)) (as' := [(.int vs), (.int (1 : Int32))]) (w := some (.int (b2i (¬ (1 : Int32) = (0 : Int32) ∨ vs / (100 : Int32) = (1 : Int32) ∨ vs = (204 : Int32) ∨ vs = (304 : Int32))))) hown (hw _ (List.mem_of_getElem? (i := 4) rfl)) (hw _ (List.mem_of_getElem? (i := 5) rfl)) (hw _ (List.mem_of_getElem? (i := 6) rfl)) (hw _ (List.mem_of_getElem? (i := 7) rfl)) (by decide) e14 (rm_body l Z a0 hw vs (1 : Int32) h0 ) pd_body rfl 0 (by decide) (by decide) (by decide) (by decide) rfl rfl (pc := 76) (pc' := 79) (Ls := #[.val (.int q1), .val (.int q2), .val (.int q3), .val (.int (1 : Int32)), .val (.int vs), .val (.int (0 : Int32)), .val (.int (1 : Int32))]) (rest := []) (st := [(.int (1 : Int32)), (.int vs)]) (by rw [hml]; rfl) rfl (by decide) (hb hby at_76) rfl
        refine st_76 ?_
        show Go p e below _ (T_76.setTop (mkF m 79 #[.val (.int q1), .val (.int q2), .val (.int q3), .val (.int (1 : Int32)), .val (.int vs), .val (.int (0 : Int32)), .val (.int (1 : Int32))] [(.int (b2i (¬ (1 : Int32) = (0 : Int32) ∨ vs / (100 : Int32) = (1 : Int32) ∨ vs = (204 : Int32) ∨ vs = (304 : Int32))))]))
        refine g_iload X_76 hx 81 (1 : Int32) (hb hby at_79) rfl rfl ?_
        refine g_icmpN X_76 hx 84 (hb hby at_81) (XT.ii_ne_f (b2i_t (by rw [own_d100]; simp [c23, c31]))) rfl ?_
        refine g_iconst X_76 hx 85 (1 : Int32) (hb hby at_84) rfl rfl ?_
        refine g_goto X_76 hx 89 (hb hby at_85) (by decide) (by decide) ?_
        exact Go.ret X_76 hx hlk Bd.returns (hb hby at_89) rfl (Or.inl ⟨rfl, by decide, _, rfl⟩) (by decide) (by decide) ⟨rfl, Fr.nil _⟩
      ·
        refine g_icmpN X14 hx 34 (hb hby at_31) (XT.ii_gt_f c31) rfl ?_
        refine g_iconst X14 hx 35 (1 : Int32) (hb hby at_34) rfl rfl ?_
        refine g_goto X14 hx 39 (hb hby at_35) (by decide) (by decide) ?_
        refine g_istore X14 hx 41 #[.val (.int q1), .val (.int q2), .val (.int q3), .val (.int (1 : Int32)), .val (.int vs), .val (.int (1 : Int32)), .unset] (hb hby at_39) rfl rfl ?_
        refine g_iload_n X14 hx 42 (1 : Int32) (hb hby at_41) rfl rfl ?_
        refine g_ifY X14 hx 66 (hb hby at_42) (XT.i0_ne_t (by decide)) (by decide) (by decide) ?_
        refine g_iconst X14 hx 67 (1 : Int32) (hb hby at_66) rfl rfl ?_
        refine g_goto X14 hx 71 (hb hby at_67) (by decide) (by decide) ?_
        refine g_istore X14 hx 73 #[.val (.int q1), .val (.int q2), .val (.int q3), .val (.int (1 : Int32)), .val (.int vs), .val (.int (1 : Int32)), .val (.int (1 : Int32))] (hb hby at_71) rfl rfl ?_
        refine g_iload X14 hx 75 vs (hb hby at_73) rfl rfl ?_
        refine g_iload_n X14 hx 76 (1 : Int32) (hb hby at_75) rfl rfl ?_
        obtain ⟨T_76, X_76, e_76, st_76⟩ := g_callSP X14 hx hZ (own := "com/example/modest_broker/modestbroker/server/Http1SyntaxBodylessPinLaw") (index := 13) (y := (⟨"com/example/modest_broker/modestbroker/server/Http1Syntax", "bodyless", "(IZ)Z"⟩ : MethodName)) (as' := [(.int vs), (.int (1 : Int32))]) (w := some (.int (b2i (¬ (1 : Int32) = (0 : Int32) ∨ vs / (100 : Int32) = (1 : Int32) ∨ vs = (204 : Int32) ∨ vs = (304 : Int32))))) hown (hw _ (List.mem_of_getElem? (i := 4) rfl)) (hw _ (List.mem_of_getElem? (i := 5) rfl)) (hw _ (List.mem_of_getElem? (i := 6) rfl)) (hw _ (List.mem_of_getElem? (i := 7) rfl)) (by decide) e14 (rm_body l Z a0 hw vs (1 : Int32) h0 ) pd_body rfl 0 (by decide) (by decide) (by decide) (by decide) rfl rfl (pc := 76) (pc' := 79) (Ls := #[.val (.int q1), .val (.int q2), .val (.int q3), .val (.int (1 : Int32)), .val (.int vs), .val (.int (1 : Int32)), .val (.int (1 : Int32))]) (rest := []) (st := [(.int (1 : Int32)), (.int vs)]) (by rw [hml]; rfl) rfl (by decide) (hb hby at_76) rfl
        refine st_76 ?_
        show Go p e below _ (T_76.setTop (mkF m 79 #[.val (.int q1), .val (.int q2), .val (.int q3), .val (.int (1 : Int32)), .val (.int vs), .val (.int (1 : Int32)), .val (.int (1 : Int32))] [(.int (b2i (¬ (1 : Int32) = (0 : Int32) ∨ vs / (100 : Int32) = (1 : Int32) ∨ vs = (204 : Int32) ∨ vs = (304 : Int32))))]))
        refine g_iload X_76 hx 81 (1 : Int32) (hb hby at_79) rfl rfl ?_
        refine g_icmpN X_76 hx 84 (hb hby at_81) (XT.ii_ne_f (b2i_t (by rw [own_d100]; simp [c23, c31]))) rfl ?_
        refine g_iconst X_76 hx 85 (1 : Int32) (hb hby at_84) rfl rfl ?_
        refine g_goto X_76 hx 89 (hb hby at_85) (by decide) (by decide) ?_
        exact Go.ret X_76 hx hlk Bd.returns (hb hby at_89) rfl (Or.inl ⟨rfl, by decide, _, rfl⟩) (by decide) (by decide) ⟨rfl, Fr.nil _⟩
set_option maxRecDepth 65536 in
set_option maxHeartbeats 40000000 in
theorem comes_1 {Post : Tables → Env → Array Value → State → Outcome → State → Prop} (hpost : ∀ tb e args s v u, (limb_1_1.after args s (.returned v) u = true ∧ limb_1_2.after args s (.returned v) u = true ∧ True) → FrameEnd s (.returned v) u (Jvm.fieldLocs frame_1_writes args s ++ Jvm.arrayLocs frame_1_arrays args s ++ Jvm.staticLocs frame_1_statics s) 0 0 → Post tb e args s (.returned v) u) :
    ArmFor flags0 classFile x code maxLocals ret World_1 tables_1 room_1 Calls_1 rest_1 Pre_1 Post := by
  intro l hfl _ _ p e ha hc hk s m args below hf hA hF happ hP
  obtain ⟨hcalls, hrest, hpre⟩ := hP
  obtain ⟨-, -, -, hnamed, -, -, -, hat⟩ := (Spec.applies_iff hf).mp happ
  obtain ⟨hg, hn⟩ := and_e (Cond.before_iff.mp (show (Jvm.Cond.and given_1 narrow_1).before args s = true from hpre))
  obtain ⟨h1, g_0⟩ := and_e hg
  obtain ⟨k0, g_1⟩ := and_e g_0
  obtain ⟨k1, g_2⟩ := and_e g_1
  obtain ⟨w0, w1, w2, rfl⟩ : ∃ w0 w1 w2 : Value, args = #[w0, w1, w2] := by
    have hs : args.size = 3 := by simpa [Cond.value, given_1] using h1
    obtain ⟨L⟩ := args
    match L, hs with
    | [w0, w1, w2], _ => exact ⟨w0, w1, w2, rfl⟩
  have hw := fun d (hd : d ∈ tables_1) => atoms_spec (ws := Jvm.Cond.code x code maxLocals ret :: tables_1) hat d (List.mem_cons_of_mem _ hd)
  obtain ⟨i0, e_0⟩ := is_v k0
  obtain rfl : w0 = (.int i0) := Option.some.inj e_0
  obtain ⟨i1, e_1⟩ := is_v k1
  obtain rfl : w1 = (.int i1) := Option.some.inj e_1
  obtain ⟨i2, e_2⟩ := is_v g_2
  obtain rfl : w2 = (.int i2) := Option.some.inj e_2
  obtain ⟨n, o, h1, h2, h3, _, L, rfl, ⟨rfl, N⟩, hq⟩ := rm_law l s _ hw tables_1 i0 i1 i2 s.heap  p e ha hc hk s m _ below hf ((Spec.applies_iff_loose hf).mp happ).1 ⟨rfl, State.Warmed39.refl s, rfl⟩ trivial
  refine ⟨n, _, h1, h2, h3, hpost _ _ _ _ _ _ ⟨Cond.after_iff.mpr rfl, Cond.after_iff.mpr (eq_i res_at (Term.int_eval (1)) rfl), trivial⟩ ⟨hq.1, hq.2.1, (hq.2.2.sift fun y hy => Or.inr (N y hy)).mono (by decide) (by decide)⟩⟩
theorem main_1_1 : Claimed_1_1 := comes_1 fun _ _ _ _ _ _ h hF => ⟨h.1, hF⟩
theorem main_1_2 : Claimed_1_2 := comes_1 fun _ _ _ _ _ _ h hF => ⟨h.2.1, hF⟩
end Jvm.Pilot.@@N@@
namespace Jvm.Pilot.@@N@@
open Jvm Jvm.ClassFile Sem Op Lib Jvm.Free Jvm.Stand Jvm.Pilot.@@N@@.Jvm.D
/-! MADE BY PROGRAM (witnessworld.py) out of the Statement's table words and the real class files: 9 classes; the members and pool entries that the words name. The judged class is class 1, her method 2. -/
namespace start1
open Jvm.ClassFile
def u (s : String) : CpInfo := .utf8 (stringToUtf16 s)
/-- a pool by its gaps: so many unusable entries, then the entry; so many at the end -/
def gap : Nat → List CpInfo → List CpInfo
  | 0, r => r
  | n + 1, r => .unusable :: gap n r
def poolList (es : List (Nat × CpInfo)) (last : Nat) : List CpInfo := es.foldr (fun e r => gap e.1 (e.2 :: r)) (gap last [])
def pool (es : List (Nat × CpInfo)) (last : Nat) : Array CpInfo := ⟨poolList es last⟩
def fileOf (pool : Array CpInfo) (this : Nat) (attrs : Array Attribute := #[]) (ms : Array MethodInfo := #[]) (fl : Nat := 33) (sup : Nat := 0) (ifs : Array Nat := #[]) (fds : Array FieldInfo := #[]) : ClassFile where
  minorVersion := 0
  majorVersion := 65
  constantPool := pool
  accessFlags := fl
  thisClass := this
  superClass := sup
  interfaces := ifs
  fields := fds
  methods := ms
  attributes := attrs
def plain (name : String) (sup : Option ClassId) : Class where
  name := name
  kind := .ordinary
  loader := none
  accessFlags := 33
  super := sup
  interfaces := #[]
  cf := none
  fields := #[]
  methods := #[]
  instanceTypes := #[]
  staticTypes := #[]
  resolved := #[]
  callSites := []
  init := .initialized
  statics := none
  mirror := none

def pool0 : Array CpInfo := pool [(5, u "<init>"), (0, u "()V"), (1, .class_ 10), (1, u "java/lang/Object")] 113

def k0m0 : Method := { name := "<init>", desc := "()V", sig := { parameters := [], returnType := none }, accessFlags := 1, code := none }
/-- java/lang/Object -/
def k0 : Class := { plain "java/lang/Object" none with
  accessFlags := 33
  interfaces := #[]
  cf := some (fileOf pool0 8 #[] #[{ accessFlags := 1, nameIndex := 5, descriptorIndex := 6, attributes := #[] }] 33 0 #[] #[])
  fields := #[]
  methods := #[k0m0]
  instanceTypes := #[]
  staticTypes := #[]
  resolved := Array.replicate 124 none
  statics := none }

def pool1 : Array CpInfo := pool [(2, .class_ 4), (1, u "java/lang/Object"), (0, u "<init>"), (0, u "()V"), (0, .methodref 8 9), (0, .class_ 10), (0, .nameAndType 11 12), (0, u "com/example/modest_broker/modestbroker/server/Http1SyntaxBodylessPinLaw"), (0, u "pickStatus"), (0, u "(II)I"), (0, .methodref 14 15), (0, .class_ 16), (0, .nameAndType 17 18), (0, u "com/example/modest_broker/modestbroker/server/Http1Syntax"), (0, u "bodyless"), (0, u "(IZ)Z"), (3, u "law"), (0, u "(III)Z")] 2

def k1m0 : Method := { name := "<init>", desc := "()V", sig := { parameters := [], returnType := none }, accessFlags := 2, code := none }
def k1c1 : Code := { maxStack := 3, maxLocals := 4, code := method_2_code, exceptionTable := #[], attributes := #[] }
def k1m1 : Method := { name := "pickStatus", desc := "(II)I", sig := { parameters := [.int, .int], returnType := some .int }, accessFlags := 10, code := some k1c1 }
def k1c2 : Code := { maxStack := 2, maxLocals := 7, code := code, exceptionTable := #[], attributes := #[] }
def k1m2 : Method := { name := "law", desc := "(III)Z", sig := { parameters := [.int, .int, .int], returnType := some .boolean }, accessFlags := 9, code := some k1c2 }
/-- com/example/modest_broker/modestbroker/server/Http1SyntaxBodylessPinLaw -/
def k1 : Class := { plain "com/example/modest_broker/modestbroker/server/Http1SyntaxBodylessPinLaw" (some 0) with
  accessFlags := 49
  interfaces := #[]
  cf := some (fileOf pool1 8 #[] #[{ accessFlags := 2, nameIndex := 5, descriptorIndex := 6, attributes := #[] }, { accessFlags := 10, nameIndex := 11, descriptorIndex := 12, attributes := #[] }, { accessFlags := 9, nameIndex := 22, descriptorIndex := 23, attributes := #[] }] 49 2 #[] #[])
  fields := #[]
  methods := #[k1m0, k1m1, k1m2]
  instanceTypes := #[]
  staticTypes := #[]
  resolved := Array.replicate 26 none
  statics := none }

def pool2 : Array CpInfo := pool [(2, .class_ 4), (1, u "java/lang/Object"), (0, u "<init>"), (0, u "()V"), (6, .class_ 14), (0, u "com/example/modest_broker/modestbroker/server/Http1Syntax"), (8, u "LENGTH"), (0, u "Ljava/util/regex/Pattern;"), (42, .class_ 68), (0, u "com/example/modest_broker/modestbroker/server/Http1Syntax$Field"), (59, u "bodyless"), (0, u "(IZ)Z"), (65, u "CONTENT_LENGTH"), (0, u "Ljava/lang/String;"), (1, u "TRANSFER_ENCODING"), (0, u "CHUNKED"), (0, u "J"), (0, u "TO_THE_END"), (0, u "TOKEN_SYMBOLS"), (0, u "MAX_CHUNK_LINE"), (0, u "I"), (1, u "MAX_CHUNK_DIGITS")] 51

def k2m0 : Method := { name := "<init>", desc := "()V", sig := { parameters := [], returnType := none }, accessFlags := 2, code := none }
def k2c1 : Code := { maxStack := 2, maxLocals := 2, code := prog_73_method_8_code, exceptionTable := #[], attributes := #[] }
def k2m1 : Method := { name := "bodyless", desc := "(IZ)Z", sig := { parameters := [.int, .boolean], returnType := some .boolean }, accessFlags := 8, code := some k2c1 }
/-- com/example/modest_broker/modestbroker/server/Http1Syntax -/
def k2 : Class := { plain "com/example/modest_broker/modestbroker/server/Http1Syntax" (some 0) with
  accessFlags := 48
  interfaces := #[]
  cf := some (fileOf pool2 13 #[.nestMembers #[67]] #[{ accessFlags := 2, nameIndex := 5, descriptorIndex := 6, attributes := #[] }, { accessFlags := 8, nameIndex := 128, descriptorIndex := 129, attributes := #[] }] 48 2 #[] #[{ accessFlags := 24, nameIndex := 195, descriptorIndex := 196, attributes := #[] }, { accessFlags := 24, nameIndex := 198, descriptorIndex := 196, attributes := #[] }, { accessFlags := 24, nameIndex := 199, descriptorIndex := 200, attributes := #[] }, { accessFlags := 24, nameIndex := 201, descriptorIndex := 200, attributes := #[] }, { accessFlags := 26, nameIndex := 23, descriptorIndex := 24, attributes := #[] }, { accessFlags := 26, nameIndex := 202, descriptorIndex := 196, attributes := #[] }, { accessFlags := 24, nameIndex := 203, descriptorIndex := 204, attributes := #[] }, { accessFlags := 24, nameIndex := 206, descriptorIndex := 204, attributes := #[] }])
  fields := #[{ name := "CONTENT_LENGTH", type := (.object "java/lang/String"), accessFlags := 24, slot := 0, constantValue := 0 }, { name := "TRANSFER_ENCODING", type := (.object "java/lang/String"), accessFlags := 24, slot := 1, constantValue := 0 }, { name := "CHUNKED", type := .long, accessFlags := 24, slot := 2, constantValue := 0 }, { name := "TO_THE_END", type := .long, accessFlags := 24, slot := 3, constantValue := 0 }, { name := "LENGTH", type := (.object "java/util/regex/Pattern"), accessFlags := 26, slot := 4, constantValue := 0 }, { name := "TOKEN_SYMBOLS", type := (.object "java/lang/String"), accessFlags := 26, slot := 5, constantValue := 0 }, { name := "MAX_CHUNK_LINE", type := .int, accessFlags := 24, slot := 6, constantValue := 0 }, { name := "MAX_CHUNK_DIGITS", type := .int, accessFlags := 24, slot := 7, constantValue := 0 }]
  methods := #[k2m0, k2m1]
  instanceTypes := #[]
  staticTypes := #[(.object "java/lang/String"), (.object "java/lang/String"), .long, .long, (.object "java/util/regex/Pattern"), (.object "java/lang/String"), .int, .int]
  resolved := Array.replicate 258 none
  statics := none }

def pool3 : Array CpInfo := pool [(1, u "java/lang/Cloneable"), (0, .class_ 1), (0, u "java/lang/Object"), (0, .class_ 3)] 3

/-- java/lang/Cloneable -/
def k3 : Class := { plain "java/lang/Cloneable" (some 0) with
  accessFlags := 1537
  interfaces := #[]
  cf := some (fileOf pool3 2 #[] #[] 1537 4 #[] #[])
  fields := #[]
  methods := #[]
  instanceTypes := #[]
  staticTypes := #[]
  resolved := Array.replicate 8 none
  statics := none }

def pool4 : Array CpInfo := pool [(1, u "java/io/Serializable"), (0, .class_ 1), (0, u "java/lang/Object"), (0, .class_ 3)] 3

/-- java/io/Serializable -/
def k4 : Class := { plain "java/io/Serializable" (some 0) with
  accessFlags := 1537
  interfaces := #[]
  cf := some (fileOf pool4 2 #[] #[] 1537 4 #[] #[])
  fields := #[]
  methods := #[]
  instanceTypes := #[]
  staticTypes := #[]
  resolved := Array.replicate 8 none
  statics := none }

/-- the primitive byte -/
def k5 : Class := { plain "byte" none with kind := .primitive 'B', accessFlags := 0x411 }
/-- [B -/
def k6 : Class := { plain "[B" (some 0) with kind := .array 5 .byte, interfaces := #[3, 4], accessFlags := 1041 }

/-- the primitive int -/
def k7 : Class := { plain "int" none with kind := .primitive 'I', accessFlags := 0x411 }
/-- [I -/
def k8 : Class := { plain "[I" (some 0) with kind := .array 7 .int, interfaces := #[3, 4], accessFlags := 1041 }

def heap : Heap := #[]
def classes : Array Class := #[k0, k1, k2, k3, k4, k5, k6, k7, k8]
def interned : List (Array UInt16 × Addr) := []
def slotsUsed : Nat := 0
def theMethod : MethodId := ⟨1, 2⟩
def args0 : Array Value := #[.int 5, .int 3, .int 1]
def aboutOver (below : List Frame) : State where
  vm := { classes := classes, interned := interned.toArray }
  heap := heap
  slotsUsed := slotsUsed
  threads := #[{ frames := .invoking theMethod args0 :: below }]
def below0 : List Frame := [.native { method := ⟨0, 0⟩, args := #[] }]
def about1 : State := aboutOver below0
def p0 : Program := .bare "" "" ""
def e0 : Env := launch0.env 0 0 0
theorem w_frames : about1.frames = Frame.invoking theMethod args0 :: below0 := rfl
set_option maxRecDepth 65536 in
theorem w_args : argsFit about1.vm theMethod args0 = true := by decide +kernel
set_option maxRecDepth 65536 in
theorem w_heap : heapFits about1 = true := by decide +kernel
set_option maxRecDepth 65536 in
theorem w_runnable : about1.curStatus? = some .runnable := by decide +kernel
set_option maxRecDepth 65536 in
theorem w_alone : about1.alone = true := by decide +kernel
set_option maxRecDepth 65536 in
theorem w_named : about1.methodNamed? x = some theMethod := by decide +kernel
set_option maxRecDepth 65536 in
theorem w_hears : about1.hears theMethod below0 = true := by decide +kernel
set_option maxRecDepth 65536 in
theorem w_ripe : about1.ripe theMethod args0 below0 = true := by decide +kernel
theorem w_running : about1.status = .running := rfl
set_option maxRecDepth 65536 in
theorem w_room : about1.hasRoom e0.platform room_1 = true :=
  launch0.hasRoom_least _ room_1 (by decide +kernel) (by decide +kernel) (by decide +kernel) (by decide +kernel) (by decide +kernel) (by decide +kernel)
theorem allAtoms_all (ts : List Jvm.Cond) (a : Array Jvm.Value) (st : Jvm.State) : (allAtoms ts).before a st = ts.all (fun c => c.before a st) := by
  induction ts with
  | nil => rfl
  | cons c t ih =>
    show (Jvm.Cond.and c (allAtoms t)).before a st = _
    rw [Jvm.Cond.before_and, ih, List.all_cons]
def words1 : List Jvm.Cond := Jvm.Cond.code x code maxLocals ret :: tables_1
/-- a 'code' word, met by the world's own term for the bytes: nothing is compared byte by byte -/
theorem code_word {y : MethodName} {bytes : ByteArray} {mx : Nat} {rt : Option FieldType} {a : Array Value} {s : State} {m : MethodId} {meth : Method} {c : Code} (h1 : s.methodNamed? y = some m) (h2 : s.vm.method? m = some meth) (h3 : meth.code = some c) (h4 : c.code = bytes)
    (h5 : (c.maxLocals == mx && c.exceptionTable.isEmpty && decide (c.maxStack ≤ mostOperands) && decide (meth.sig.returnType = rt) && !meth.locks && decide (parseMethodDescriptor y.desc = some meth.sig)) = true) : (Jvm.Cond.code y bytes mx rt).before a s = true := by
  simp only [Bool.and_eq_true, beq_iff_eq, Bool.not_eq_true', decide_eq_true_eq] at h5
  obtain ⟨⟨⟨⟨⟨g1, g2⟩, g3⟩, g4⟩, g5⟩, g6⟩ := h5
  simp [Cond.before, Cond.holds, Cond.value, h1, h2, h3, h4, g1, g2, g3, g4, g5, g6]
def isCode : Jvm.Cond → Bool
  | .code _ _ _ _ => true
  | _ => false
theorem all_split {L : List Jvm.Cond} {P : Jvm.Cond → Bool} (h1 : L.all (fun c => isCode c || P c) = true) (h2 : ∀ c ∈ L.filter isCode, P c = true) : L.all P = true := by
  refine List.all_eq_true.mpr fun c hc => ?_
  have h := List.all_eq_true.mp h1 c hc
  rcases Bool.eq_false_or_eq_true (isCode c) with hi | hi
  · exact h2 c (List.mem_filter.mpr ⟨hc, hi⟩)
  · simpa [hi] using h
set_option maxRecDepth 65536 in
theorem w_c0 : (Jvm.Cond.code x code maxLocals ret).before args0 about1 = true := code_word (m := ⟨1, 2⟩) (meth := k1m2) (c := k1c2) (by decide +kernel) rfl rfl rfl (by decide +kernel)
set_option maxRecDepth 65536 in
theorem w_c1 : (Jvm.Cond.code ({ cls := "com/example/modest_broker/modestbroker/server/Http1SyntaxBodylessPinLaw", name := "pickStatus", desc := "(II)I" } : Jvm.MethodName) method_2_code (4 : Nat) (Option.some Jvm.ClassFile.FieldType.int)).before args0 about1 = true := code_word (m := ⟨1, 1⟩) (meth := k1m1) (c := k1c1) (by decide +kernel) rfl rfl rfl (by decide +kernel)
set_option maxRecDepth 65536 in
theorem w_c2 : (Jvm.Cond.code ({ cls := "com/example/modest_broker/modestbroker/server/Http1Syntax", name := "bodyless", desc := "(IZ)Z" } : Jvm.MethodName) prog_73_method_8_code (2 : Nat) (Option.some Jvm.ClassFile.FieldType.boolean)).before args0 about1 = true := code_word (m := ⟨2, 1⟩) (meth := k2m1) (c := k2c1) (by decide +kernel) rfl rfl rfl (by decide +kernel)
def codes1 : List Jvm.Cond := [Jvm.Cond.code x code maxLocals ret, Jvm.Cond.code ({ cls := "com/example/modest_broker/modestbroker/server/Http1SyntaxBodylessPinLaw", name := "pickStatus", desc := "(II)I" } : Jvm.MethodName) method_2_code (4 : Nat) (Option.some Jvm.ClassFile.FieldType.int), Jvm.Cond.code ({ cls := "com/example/modest_broker/modestbroker/server/Http1Syntax", name := "bodyless", desc := "(IZ)Z" } : Jvm.MethodName) prog_73_method_8_code (2 : Nat) (Option.some Jvm.ClassFile.FieldType.boolean)]
set_option maxRecDepth 65536 in
theorem codes_eq : words1.filter isCode = codes1 := rfl
theorem w_codes : ∀ c ∈ words1.filter isCode, c.before args0 about1 = true := by
  rw [codes_eq]
  intro c hc
  simp only [codes1, List.mem_cons, List.not_mem_nil, or_false] at hc
  rcases hc with rfl | rfl | rfl
  · exact w_c0
  · exact w_c1
  · exact w_c2
set_option maxRecDepth 65536 in
theorem w_t1 : words1.all (fun c => isCode c || c.before args0 about1) = true := by decide +kernel
theorem w_tables : (allAtoms (Jvm.Cond.code x code maxLocals ret :: tables_1)).before args0 about1 = true := by
  rw [allAtoms_all]
  show words1.all (fun c => c.before args0 about1) = true
  refine all_split ?_ w_codes
  rw [w_t1]
set_option maxRecDepth 65536 in
theorem w_case : (Jvm.Cond.and given_1 narrow_1).before args0 about1 = true := by decide +kernel
theorem w_applies : (headSpec (Jvm.Cond.code x code maxLocals ret :: tables_1) room_1).applies x e0.platform about1 = true :=
  (Spec.applies_iff w_frames).mpr ⟨w_running, w_runnable, w_alone, w_named, w_hears, w_ripe, w_room, w_tables⟩
theorem atStart : AtStart classFile x code maxLocals ret World_1 tables_1 room_1 Calls_1 rest_1 Pre_1 launch0 p0 e0 about1 theMethod args0 below0 :=
  ⟨lists_1, trivial, launch0.admits_env _ _ _, launch0.least_env, fairChoices_fair.cas, fairChoices_fair.clock, w_frames, w_args, w_heap, w_applies, trivial, trivial, w_case⟩
end start1
theorem witness_1 : WitnessClaimed_1 := ⟨start1.p0, start1.e0, start1.about1, start1.theMethod, start1.args0, start1.below0, start1.atStart⟩
end Jvm.Pilot.@@N@@
