import JvmDerived
import JvmDerived.Pilot.@@N@@Statement
import JvmDerived.Pilot.@@N@@Code
set_option linter.unusedVariables false
set_option linter.unusedSimpArgs false
namespace Jvm.RoadKit
open Sem ClassFile Op Lib Jvm.Stand Jvm.Free Jvm.LawKit
section Own
variable {p : Program} {l : Launch} {e : Env} {R : Room} {s : State} {m : MethodId} {args : Array Value} {below : List Frame} {meth : Method} {c : Code} {T : State} {locs : List Loc} {cells slots : Nat} {Fe : Outcome → State → List Loc → Nat → Nat → Prop} {Qf : Option Value → Heap → List Loc → Prop} {kc ks : Nat} {code : ByteArray} {pc pc' : Nat} {Ls l' : Array Slot} {rest : List Value} {Z : State} {a0 : Array Value} {h : Heap}
/-- from the state S the call ends well: it returns, what is returned and the heap at the end meet Qf, and the frame is kept -/
def Gol (p : Program) (e : Env) (below : List Frame) (Fe : Outcome → State → List Loc → Nat → Nat → Prop) (Qf : Option Value → Heap → List Loc → Prop) (kc ks : Nat) (S : State) : Prop :=
  ∃ s₂ o, Steps p.tables e below S s₂ ∧ s₂.status = .running ∧ Ended s₂ below o ∧ ∃ v L, o = .returned v ∧ Qf v s₂.heap L ∧ Fe o s₂ L kc ks
theorem Gol.step {S S' : State} (st : ∀ t, Steps p.tables e below S' t → Steps p.tables e below S t) (k : Gol p e below Fe Qf kc ks S') : Gol p e below Fe Qf kc ks S := by
  obtain ⟨s₂, o, h, r⟩ := k
  exact ⟨s₂, o, st _ h, r⟩
theorem Gol.dia {S S' : State} (h1 : Gol p e below Fe Qf kc ks S' → Gol p e below Fe Qf kc ks S) (h2 : Gol p e below Fe Qf kc ks S') : Gol p e below Fe Qf kc ks S := h1 h2
theorem Gol.all {A : Type} {B : A → Prop} {S : State} {S' : A → State} (h2 : ∀ a, B a → Gol p e below Fe Qf kc ks (S' a)) (h1 : (∀ a, B a → Gol p e below Fe Qf kc ks (S' a)) → Gol p e below Fe Qf kc ks S) : Gol p e below Fe Qf kc ks S := h1 h2
/-- the run stands at pc -/
abbrev GolF (p : Program) (e : Env) (below : List Frame) (Fe : Outcome → State → List Loc → Nat → Nat → Prop) (Qf : Option Value → Heap → List Loc → Prop) (kc ks : Nat) (T : State) (m : MethodId) (pc : Nat) (Ls : Array Slot) (st : List Value) : Prop := Gol p e below Fe Qf kc ks (T.setTop (mkF m pc Ls st))
theorem Gol.fin (X : Stand p l e R s m args below meth c T locs cells slots) {v : Option Value} (hv : meth.sig.returnType = none → v = none) (hlk : meth.locks = false) {S : State} (eT : T.heap = h) (hq : Qf v h locs) (hc : cells ≤ kc) (hs : slots ≤ ks)
    (st : ∀ fs, (∀ (f : JFrame) (acts : List Action), f.method = m → f.locked = none → f.entered = [] → (doReturn e (T.setTop f) acts v).1 = T.setFrames fs) → Steps p.tables e below S (T.setFrames fs)) : Gol p e below (FrameEnd s) Qf kc ks S := by
  obtain ⟨fs, hr, hrun, hended, hW, hsame⟩ := X.leave (v := v) hv hlk
  refine ⟨_, _, st fs hr, hrun, hended, _, _, rfl, ?_, ⟨_, rfl⟩, hW, hsame.mono hc hs⟩
  show Qf v T.heap locs
  rw [eT]; exact hq
theorem Gol.finW {vm₁ : Vm} (X : Stand p l e R (s.setVm vm₁) m args below meth c T locs cells slots) {n : Nat} (hS : s.Since vm₁ n) (hn : n ≤ T.heap.size) {v : Option Value} (hv : meth.sig.returnType = none → v = none) (hlk : meth.locks = false) {S : State} (eT : T.heap = h) (hq : Qf v h locs) (hc : cells ≤ kc) (hs : slots ≤ ks)
    (st : ∀ fs, (∀ (f : JFrame) (acts : List Action), f.method = m → f.locked = none → f.entered = [] → (doReturn e (T.setTop f) acts v).1 = T.setFrames fs) → Steps p.tables e below S (T.setFrames fs)) : Gol p e below (ReturnedEndW s) Qf kc ks S := by
  obtain ⟨fs, hr, hrun, hended, h1, h2, h3, h4⟩ := X.leaveW hS hn (v := v) hv hlk
  refine ⟨_, _, st fs hr, hrun, hended, _, _, rfl, ?_, h1, h2, h3, h4.mono hc hs⟩
  show Qf v T.heap locs
  rw [eT]; exact hq
theorem Gol.aloadN (X : Stand p l e R s m args below meth c T locs cells slots) (hx : p.tables.exec = Jvm.exec) (hby : c.code = code) {k : Fin 4} {v : Value} (hd : decode code pc = .ok (.aload_n k, 1)) (hp : pc + 1 = pc') (hl : Ls[k.val]? = some (.val v)) (hv : v.isRef = true) (k : GolF p e below Fe Qf kc ks T m pc' Ls (v :: rest)) : GolF p e below Fe Qf kc ks T m pc Ls rest := by
  subst hp
  exact Gol.step (fun _ k => XS.aloadN X.here hx rfl (hb hby hd) hl hv k) k
theorem Gol.aload (X : Stand p l e R s m args below meth c T locs cells slots) (hx : p.tables.exec = Jvm.exec) (hby : c.code = code) {k : Nat} {v : Value} (hd : decode code pc = .ok (.aload k, 2)) (hp : pc + 2 = pc') (hl : Ls[k]? = some (.val v)) (hv : v.isRef = true) (k : GolF p e below Fe Qf kc ks T m pc' Ls (v :: rest)) : GolF p e below Fe Qf kc ks T m pc Ls rest := by
  subst hp
  exact Gol.step (fun _ k => XS.aload X.here hx rfl (hb hby hd) hl hv k) k
theorem Gol.iloadN (X : Stand p l e R s m args below meth c T locs cells slots) (hx : p.tables.exec = Jvm.exec) (hby : c.code = code) {k : Fin 4} {v : Int32} (hd : decode code pc = .ok (.iload_n k, 1)) (hp : pc + 1 = pc') (hl : Ls[k.val]? = some (.val (.int v))) (k : GolF p e below Fe Qf kc ks T m pc' Ls (.int v :: rest)) : GolF p e below Fe Qf kc ks T m pc Ls rest := by
  subst hp
  exact Gol.step (fun _ k => XS.iloadN X.here hx rfl (hb hby hd) hl k) k
theorem Gol.iload (X : Stand p l e R s m args below meth c T locs cells slots) (hx : p.tables.exec = Jvm.exec) (hby : c.code = code) {k : Nat} {v : Int32} (hd : decode code pc = .ok (.iload k, 2)) (hp : pc + 2 = pc') (hl : Ls[k]? = some (.val (.int v))) (k : GolF p e below Fe Qf kc ks T m pc' Ls (.int v :: rest)) : GolF p e below Fe Qf kc ks T m pc Ls rest := by
  subst hp
  exact Gol.step (fun _ k => XS.iload X.here hx rfl (hb hby hd) hl k) k
theorem Gol.istoreN (X : Stand p l e R s m args below meth c T locs cells slots) (hx : p.tables.exec = Jvm.exec) (hby : c.code = code) {k : Fin 4} {x : Int32} (hd : decode code pc = .ok (.istore_n k, 1)) (hp : pc + 1 = pc') (hl : storeLocals Ls k.val (.int x) = some l') (k : GolF p e below Fe Qf kc ks T m pc' l' rest) : GolF p e below Fe Qf kc ks T m pc Ls (.int x :: rest) := by
  subst hp
  exact Gol.step (fun _ k => XS.istoreN X.here hx rfl (hb hby hd) rfl hl k) k
theorem Gol.istore (X : Stand p l e R s m args below meth c T locs cells slots) (hx : p.tables.exec = Jvm.exec) (hby : c.code = code) {k : Nat} {x : Int32} (hd : decode code pc = .ok (.istore k, 2)) (hp : pc + 2 = pc') (hl : storeLocals Ls k (.int x) = some l') (k : GolF p e below Fe Qf kc ks T m pc' l' rest) : GolF p e below Fe Qf kc ks T m pc Ls (.int x :: rest) := by
  subst hp
  exact Gol.step (fun _ k => XS.istore X.here hx rfl (hb hby hd) rfl hl k) k
theorem Gol.lloadN (X : Stand p l e R s m args below meth c T locs cells slots) (hx : p.tables.exec = Jvm.exec) (hby : c.code = code) {k : Fin 4} {v : Int64} (hd : decode code pc = .ok (.lload_n k, 1)) (hp : pc + 1 = pc') (hl : Ls[k.val]? = some (.val (.long v))) (k : GolF p e below Fe Qf kc ks T m pc' Ls (.long v :: rest)) : GolF p e below Fe Qf kc ks T m pc Ls rest := by
  subst hp
  exact Gol.step (fun _ k => XT.lloadN X.here hx rfl (hb hby hd) hl k) k
theorem Gol.lload (X : Stand p l e R s m args below meth c T locs cells slots) (hx : p.tables.exec = Jvm.exec) (hby : c.code = code) {k : Nat} {v : Int64} (hd : decode code pc = .ok (.lload k, 2)) (hp : pc + 2 = pc') (hl : Ls[k]? = some (.val (.long v))) (k : GolF p e below Fe Qf kc ks T m pc' Ls (.long v :: rest)) : GolF p e below Fe Qf kc ks T m pc Ls rest := by
  subst hp
  exact Gol.step (fun _ k => XT.lload X.here hx rfl (hb hby hd) hl k) k
theorem Gol.lstoreN (X : Stand p l e R s m args below meth c T locs cells slots) (hx : p.tables.exec = Jvm.exec) (hby : c.code = code) {k : Fin 4} {x : Int64} (hd : decode code pc = .ok (.lstore_n k, 1)) (hp : pc + 1 = pc') (hl : storeLocals Ls k.val (.long x) = some l') (k : GolF p e below Fe Qf kc ks T m pc' l' rest) : GolF p e below Fe Qf kc ks T m pc Ls (.long x :: rest) := by
  subst hp
  exact Gol.step (fun _ k => XT.lstoreN X.here hx rfl (hb hby hd) rfl hl k) k
theorem Gol.lstore (X : Stand p l e R s m args below meth c T locs cells slots) (hx : p.tables.exec = Jvm.exec) (hby : c.code = code) {k : Nat} {x : Int64} (hd : decode code pc = .ok (.lstore k, 2)) (hp : pc + 2 = pc') (hl : storeLocals Ls k (.long x) = some l') (k : GolF p e below Fe Qf kc ks T m pc' l' rest) : GolF p e below Fe Qf kc ks T m pc Ls (.long x :: rest) := by
  subst hp
  exact Gol.step (fun _ k => XT.lstore X.here hx rfl (hb hby hd) rfl hl k) k
theorem Gol.astoreN (X : Stand p l e R s m args below meth c T locs cells slots) (hx : p.tables.exec = Jvm.exec) (hby : c.code = code) {k : Fin 4} {x : Value} (hd : decode code pc = .ok (.astore_n k, 1)) (hp : pc + 1 = pc') (hv : x.isRef = true) (hl : storeLocals Ls k.val x = some l') (k : GolF p e below Fe Qf kc ks T m pc' l' rest) : GolF p e below Fe Qf kc ks T m pc Ls (x :: rest) := by
  subst hp
  exact Gol.step (fun _ k => XS.astoreN X.here hx rfl (hb hby hd) rfl hv hl k) k
theorem Gol.astore (X : Stand p l e R s m args below meth c T locs cells slots) (hx : p.tables.exec = Jvm.exec) (hby : c.code = code) {k : Nat} {x : Value} (hd : decode code pc = .ok (.astore k, 2)) (hp : pc + 2 = pc') (hv : x.isRef = true) (hl : storeLocals Ls k x = some l') (k : GolF p e below Fe Qf kc ks T m pc' l' rest) : GolF p e below Fe Qf kc ks T m pc Ls (x :: rest) := by
  subst hp
  exact Gol.step (fun _ k => XS.astore X.here hx rfl (hb hby hd) rfl hv hl k) k
theorem Gol.iconst (X : Stand p l e R s m args below meth c T locs cells slots) (hx : p.tables.exec = Jvm.exec) (hby : c.code = code) {i : Int} {z : Int32} (hd : decode code pc = .ok (.iconst i, 1)) (hp : pc + 1 = pc') (hz : Int32.ofInt i = z) (k : GolF p e below Fe Qf kc ks T m pc' Ls (.int z :: rest)) : GolF p e below Fe Qf kc ks T m pc Ls rest := by
  subst hp hz
  exact Gol.step (fun _ k => XS.iconst X.here hx rfl (hb hby hd) k) k
theorem Gol.bipush (X : Stand p l e R s m args below meth c T locs cells slots) (hx : p.tables.exec = Jvm.exec) (hby : c.code = code) {i : Int} {z : Int32} (hd : decode code pc = .ok (.bipush i, 2)) (hp : pc + 2 = pc') (hz : (Int8.ofInt i).toInt32 = z) (k : GolF p e below Fe Qf kc ks T m pc' Ls (.int z :: rest)) : GolF p e below Fe Qf kc ks T m pc Ls rest := by
  subst hp hz
  exact Gol.step (fun _ k => XS.bipush X.here hx rfl (hb hby hd) k) k
theorem Gol.sipush (X : Stand p l e R s m args below meth c T locs cells slots) (hx : p.tables.exec = Jvm.exec) (hby : c.code = code) {i : Int} {z : Int32} (hd : decode code pc = .ok (.sipush i, 3)) (hp : pc + 3 = pc') (hz : (Int16.ofInt i).toInt32 = z) (k : GolF p e below Fe Qf kc ks T m pc' Ls (.int z :: rest)) : GolF p e below Fe Qf kc ks T m pc Ls rest := by
  subst hp hz
  exact Gol.step (fun _ k => XS.sipush X.here hx rfl (hb hby hd) k) k
theorem Gol.lconst (X : Stand p l e R s m args below meth c T locs cells slots) (hx : p.tables.exec = Jvm.exec) (hby : c.code = code) {i : Fin 2} {z : Int64} (hd : decode code pc = .ok (.lconst i, 1)) (hp : pc + 1 = pc') (hz : Int64.ofNat i = z) (k : GolF p e below Fe Qf kc ks T m pc' Ls (.long z :: rest)) : GolF p e below Fe Qf kc ks T m pc Ls rest := by
  subst hp hz
  exact Gol.step (fun _ k => XT.lconst X.here hx rfl (hb hby hd) k) k
theorem Gol.aconstNull (X : Stand p l e R s m args below meth c T locs cells slots) (hx : p.tables.exec = Jvm.exec) (hby : c.code = code) (hd : decode code pc = .ok (.aconst_null, 1)) (hp : pc + 1 = pc') (k : GolF p e below Fe Qf kc ks T m pc' Ls (.null :: rest)) : GolF p e below Fe Qf kc ks T m pc Ls rest := by
  subst hp
  exact Gol.step (fun _ k => XS.aconstNull X.here hx rfl (hb hby hd) k) k
theorem Gol.iadd (X : Stand p l e R s m args below meth c T locs cells slots) (hx : p.tables.exec = Jvm.exec) (hby : c.code = code) {x y z : Int32} (hd : decode code pc = .ok (.iadd, 1)) (hp : pc + 1 = pc') (hz : x + y = z) (k : GolF p e below Fe Qf kc ks T m pc' Ls (.int z :: rest)) : GolF p e below Fe Qf kc ks T m pc Ls (.int y :: .int x :: rest) := by
  subst hp hz
  exact Gol.step (fun _ k => XS.iadd X.here hx rfl (hb hby hd) rfl k) k
theorem Gol.ladd (X : Stand p l e R s m args below meth c T locs cells slots) (hx : p.tables.exec = Jvm.exec) (hby : c.code = code) {x y z : Int64} (hd : decode code pc = .ok (.ladd, 1)) (hp : pc + 1 = pc') (hz : x + y = z) (k : GolF p e below Fe Qf kc ks T m pc' Ls (.long z :: rest)) : GolF p e below Fe Qf kc ks T m pc Ls (.long y :: .long x :: rest) := by
  subst hp hz
  exact Gol.step (fun _ k => XT.ladd X.here hx rfl (hb hby hd) rfl k) k
theorem Gol.isub (X : Stand p l e R s m args below meth c T locs cells slots) (hx : p.tables.exec = Jvm.exec) (hby : c.code = code) {x y z : Int32} (hd : decode code pc = .ok (.isub, 1)) (hp : pc + 1 = pc') (hz : x - y = z) (k : GolF p e below Fe Qf kc ks T m pc' Ls (.int z :: rest)) : GolF p e below Fe Qf kc ks T m pc Ls (.int y :: .int x :: rest) := by
  subst hp hz
  exact Gol.step (fun _ k => XS.isub X.here hx rfl (hb hby hd) rfl k) k
theorem Gol.lsub (X : Stand p l e R s m args below meth c T locs cells slots) (hx : p.tables.exec = Jvm.exec) (hby : c.code = code) {x y z : Int64} (hd : decode code pc = .ok (.lsub, 1)) (hp : pc + 1 = pc') (hz : x - y = z) (k : GolF p e below Fe Qf kc ks T m pc' Ls (.long z :: rest)) : GolF p e below Fe Qf kc ks T m pc Ls (.long y :: .long x :: rest) := by
  subst hp hz
  exact Gol.step (fun _ k => XT.lsub X.here hx rfl (hb hby hd) rfl k) k
theorem Gol.imul (X : Stand p l e R s m args below meth c T locs cells slots) (hx : p.tables.exec = Jvm.exec) (hby : c.code = code) {x y z : Int32} (hd : decode code pc = .ok (.imul, 1)) (hp : pc + 1 = pc') (hz : x * y = z) (k : GolF p e below Fe Qf kc ks T m pc' Ls (.int z :: rest)) : GolF p e below Fe Qf kc ks T m pc Ls (.int y :: .int x :: rest) := by
  subst hp hz
  exact Gol.step (fun _ k => XS.imul X.here hx rfl (hb hby hd) rfl k) k
theorem Gol.lmul (X : Stand p l e R s m args below meth c T locs cells slots) (hx : p.tables.exec = Jvm.exec) (hby : c.code = code) {x y z : Int64} (hd : decode code pc = .ok (.lmul, 1)) (hp : pc + 1 = pc') (hz : x * y = z) (k : GolF p e below Fe Qf kc ks T m pc' Ls (.long z :: rest)) : GolF p e below Fe Qf kc ks T m pc Ls (.long y :: .long x :: rest) := by
  subst hp hz
  exact Gol.step (fun _ k => XT.lmul X.here hx rfl (hb hby hd) rfl k) k
theorem Gol.iand (X : Stand p l e R s m args below meth c T locs cells slots) (hx : p.tables.exec = Jvm.exec) (hby : c.code = code) {x y z : Int32} (hd : decode code pc = .ok (.iand, 1)) (hp : pc + 1 = pc') (hz : x &&& y = z) (k : GolF p e below Fe Qf kc ks T m pc' Ls (.int z :: rest)) : GolF p e below Fe Qf kc ks T m pc Ls (.int y :: .int x :: rest) := by
  subst hp hz
  exact Gol.step (fun _ k => XS.iand X.here hx rfl (hb hby hd) rfl k) k
theorem Gol.land (X : Stand p l e R s m args below meth c T locs cells slots) (hx : p.tables.exec = Jvm.exec) (hby : c.code = code) {x y z : Int64} (hd : decode code pc = .ok (.land, 1)) (hp : pc + 1 = pc') (hz : x &&& y = z) (k : GolF p e below Fe Qf kc ks T m pc' Ls (.long z :: rest)) : GolF p e below Fe Qf kc ks T m pc Ls (.long y :: .long x :: rest) := by
  subst hp hz
  exact Gol.step (fun _ k => XT.land X.here hx rfl (hb hby hd) rfl k) k
theorem Gol.ior (X : Stand p l e R s m args below meth c T locs cells slots) (hx : p.tables.exec = Jvm.exec) (hby : c.code = code) {x y z : Int32} (hd : decode code pc = .ok (.ior, 1)) (hp : pc + 1 = pc') (hz : x ||| y = z) (k : GolF p e below Fe Qf kc ks T m pc' Ls (.int z :: rest)) : GolF p e below Fe Qf kc ks T m pc Ls (.int y :: .int x :: rest) := by
  subst hp hz
  exact Gol.step (fun _ k => XT.ior X.here hx rfl (hb hby hd) rfl k) k
theorem Gol.lor (X : Stand p l e R s m args below meth c T locs cells slots) (hx : p.tables.exec = Jvm.exec) (hby : c.code = code) {x y z : Int64} (hd : decode code pc = .ok (.lor, 1)) (hp : pc + 1 = pc') (hz : x ||| y = z) (k : GolF p e below Fe Qf kc ks T m pc' Ls (.long z :: rest)) : GolF p e below Fe Qf kc ks T m pc Ls (.long y :: .long x :: rest) := by
  subst hp hz
  exact Gol.step (fun _ k => XT.lor X.here hx rfl (hb hby hd) rfl k) k
theorem Gol.ixor (X : Stand p l e R s m args below meth c T locs cells slots) (hx : p.tables.exec = Jvm.exec) (hby : c.code = code) {x y z : Int32} (hd : decode code pc = .ok (.ixor, 1)) (hp : pc + 1 = pc') (hz : x ^^^ y = z) (k : GolF p e below Fe Qf kc ks T m pc' Ls (.int z :: rest)) : GolF p e below Fe Qf kc ks T m pc Ls (.int y :: .int x :: rest) := by
  subst hp hz
  exact Gol.step (fun _ k => XT.ixor X.here hx rfl (hb hby hd) rfl k) k
theorem Gol.lxor (X : Stand p l e R s m args below meth c T locs cells slots) (hx : p.tables.exec = Jvm.exec) (hby : c.code = code) {x y z : Int64} (hd : decode code pc = .ok (.lxor, 1)) (hp : pc + 1 = pc') (hz : x ^^^ y = z) (k : GolF p e below Fe Qf kc ks T m pc' Ls (.long z :: rest)) : GolF p e below Fe Qf kc ks T m pc Ls (.long y :: .long x :: rest) := by
  subst hp hz
  exact Gol.step (fun _ k => XT.lxor X.here hx rfl (hb hby hd) rfl k) k
theorem Gol.ishl (X : Stand p l e R s m args below meth c T locs cells slots) (hx : p.tables.exec = Jvm.exec) (hby : c.code = code) {x y z : Int32} (hd : decode code pc = .ok (.ishl, 1)) (hp : pc + 1 = pc') (hz : x <<< (y &&& 31) = z) (k : GolF p e below Fe Qf kc ks T m pc' Ls (.int z :: rest)) : GolF p e below Fe Qf kc ks T m pc Ls (.int y :: .int x :: rest) := by
  subst hp hz
  exact Gol.step (fun _ k => XT.ishl X.here hx rfl (hb hby hd) rfl k) k
theorem Gol.ishr (X : Stand p l e R s m args below meth c T locs cells slots) (hx : p.tables.exec = Jvm.exec) (hby : c.code = code) {x y z : Int32} (hd : decode code pc = .ok (.ishr, 1)) (hp : pc + 1 = pc') (hz : x >>> (y &&& 31) = z) (k : GolF p e below Fe Qf kc ks T m pc' Ls (.int z :: rest)) : GolF p e below Fe Qf kc ks T m pc Ls (.int y :: .int x :: rest) := by
  subst hp hz
  exact Gol.step (fun _ k => XT.ishr X.here hx rfl (hb hby hd) rfl k) k
theorem Gol.iushr (X : Stand p l e R s m args below meth c T locs cells slots) (hx : p.tables.exec = Jvm.exec) (hby : c.code = code) {x y z : Int32} (hd : decode code pc = .ok (.iushr, 1)) (hp : pc + 1 = pc') (hz : XT.ushr x y = z) (k : GolF p e below Fe Qf kc ks T m pc' Ls (.int z :: rest)) : GolF p e below Fe Qf kc ks T m pc Ls (.int y :: .int x :: rest) := by
  subst hp hz
  exact Gol.step (fun _ k => XT.iushr X.here hx rfl (hb hby hd) rfl k) k
theorem Gol.lshl (X : Stand p l e R s m args below meth c T locs cells slots) (hx : p.tables.exec = Jvm.exec) (hby : c.code = code) {x z : Int64} {y : Int32} (hd : decode code pc = .ok (.lshl, 1)) (hp : pc + 1 = pc') (hz : x <<< (y.toInt64 &&& 63) = z) (k : GolF p e below Fe Qf kc ks T m pc' Ls (.long z :: rest)) : GolF p e below Fe Qf kc ks T m pc Ls (.int y :: .long x :: rest) := by
  subst hp hz
  exact Gol.step (fun _ k => XT.lshl X.here hx rfl (hb hby hd) rfl k) k
theorem Gol.lshr (X : Stand p l e R s m args below meth c T locs cells slots) (hx : p.tables.exec = Jvm.exec) (hby : c.code = code) {x z : Int64} {y : Int32} (hd : decode code pc = .ok (.lshr, 1)) (hp : pc + 1 = pc') (hz : x >>> (y.toInt64 &&& 63) = z) (k : GolF p e below Fe Qf kc ks T m pc' Ls (.long z :: rest)) : GolF p e below Fe Qf kc ks T m pc Ls (.int y :: .long x :: rest) := by
  subst hp hz
  exact Gol.step (fun _ k => XT.lshr X.here hx rfl (hb hby hd) rfl k) k
theorem Gol.lushr (X : Stand p l e R s m args below meth c T locs cells slots) (hx : p.tables.exec = Jvm.exec) (hby : c.code = code) {x z : Int64} {y : Int32} (hd : decode code pc = .ok (.lushr, 1)) (hp : pc + 1 = pc') (hz : XT.ushrL x y = z) (k : GolF p e below Fe Qf kc ks T m pc' Ls (.long z :: rest)) : GolF p e below Fe Qf kc ks T m pc Ls (.int y :: .long x :: rest) := by
  subst hp hz
  exact Gol.step (fun _ k => XT.lushr X.here hx rfl (hb hby hd) rfl k) k
theorem Gol.lcmp (X : Stand p l e R s m args below meth c T locs cells slots) (hx : p.tables.exec = Jvm.exec) (hby : c.code = code) {x y : Int64} (hd : decode code pc = .ok (.lcmp, 1)) (hp : pc + 1 = pc') (k : GolF p e below Fe Qf kc ks T m pc' Ls (.int (XT.cmpL x y) :: rest)) : GolF p e below Fe Qf kc ks T m pc Ls (.long y :: .long x :: rest) := by
  subst hp
  exact Gol.step (fun _ k => XT.lcmp X.here hx rfl (hb hby hd) rfl k) k
theorem Gol.ineg (X : Stand p l e R s m args below meth c T locs cells slots) (hx : p.tables.exec = Jvm.exec) (hby : c.code = code) {x : Int32} {z : Int32} (hd : decode code pc = .ok (.ineg, 1)) (hp : pc + 1 = pc') (hz : -x = z) (k : GolF p e below Fe Qf kc ks T m pc' Ls (.int z :: rest)) : GolF p e below Fe Qf kc ks T m pc Ls (.int x :: rest) := by
  subst hp hz
  exact Gol.step (fun _ k => XS.ineg X.here hx rfl (hb hby hd) rfl k) k
theorem Gol.lneg (X : Stand p l e R s m args below meth c T locs cells slots) (hx : p.tables.exec = Jvm.exec) (hby : c.code = code) {x : Int64} {z : Int64} (hd : decode code pc = .ok (.lneg, 1)) (hp : pc + 1 = pc') (hz : -x = z) (k : GolF p e below Fe Qf kc ks T m pc' Ls (.long z :: rest)) : GolF p e below Fe Qf kc ks T m pc Ls (.long x :: rest) := by
  subst hp hz
  exact Gol.step (fun _ k => XT.lneg X.here hx rfl (hb hby hd) rfl k) k
theorem Gol.i2l (X : Stand p l e R s m args below meth c T locs cells slots) (hx : p.tables.exec = Jvm.exec) (hby : c.code = code) {x : Int32} {z : Int64} (hd : decode code pc = .ok (.i2l, 1)) (hp : pc + 1 = pc') (hz : x.toInt64 = z) (k : GolF p e below Fe Qf kc ks T m pc' Ls (.long z :: rest)) : GolF p e below Fe Qf kc ks T m pc Ls (.int x :: rest) := by
  subst hp hz
  exact Gol.step (fun _ k => XT.i2l X.here hx rfl (hb hby hd) rfl k) k
theorem Gol.l2i (X : Stand p l e R s m args below meth c T locs cells slots) (hx : p.tables.exec = Jvm.exec) (hby : c.code = code) {x : Int64} {z : Int32} (hd : decode code pc = .ok (.l2i, 1)) (hp : pc + 1 = pc') (hz : x.toInt32 = z) (k : GolF p e below Fe Qf kc ks T m pc' Ls (.int z :: rest)) : GolF p e below Fe Qf kc ks T m pc Ls (.long x :: rest) := by
  subst hp hz
  exact Gol.step (fun _ k => XT.l2i X.here hx rfl (hb hby hd) rfl k) k
theorem Gol.i2b (X : Stand p l e R s m args below meth c T locs cells slots) (hx : p.tables.exec = Jvm.exec) (hby : c.code = code) {x : Int32} {z : Int32} (hd : decode code pc = .ok (.i2b, 1)) (hp : pc + 1 = pc') (hz : x.toInt8.toInt32 = z) (k : GolF p e below Fe Qf kc ks T m pc' Ls (.int z :: rest)) : GolF p e below Fe Qf kc ks T m pc Ls (.int x :: rest) := by
  subst hp hz
  exact Gol.step (fun _ k => XT.i2b X.here hx rfl (hb hby hd) rfl k) k
theorem Gol.i2s (X : Stand p l e R s m args below meth c T locs cells slots) (hx : p.tables.exec = Jvm.exec) (hby : c.code = code) {x : Int32} {z : Int32} (hd : decode code pc = .ok (.i2s, 1)) (hp : pc + 1 = pc') (hz : x.toInt16.toInt32 = z) (k : GolF p e below Fe Qf kc ks T m pc' Ls (.int z :: rest)) : GolF p e below Fe Qf kc ks T m pc Ls (.int x :: rest) := by
  subst hp hz
  exact Gol.step (fun _ k => XT.i2s X.here hx rfl (hb hby hd) rfl k) k
theorem Gol.i2c (X : Stand p l e R s m args below meth c T locs cells slots) (hx : p.tables.exec = Jvm.exec) (hby : c.code = code) {x : Int32} {z : Int32} (hd : decode code pc = .ok (.i2c, 1)) (hp : pc + 1 = pc') (hz : x.toUInt32.toUInt16.toUInt32.toInt32 = z) (k : GolF p e below Fe Qf kc ks T m pc' Ls (.int z :: rest)) : GolF p e below Fe Qf kc ks T m pc Ls (.int x :: rest) := by
  subst hp hz
  exact Gol.step (fun _ k => XT.i2c X.here hx rfl (hb hby hd) rfl k) k
theorem Gol.idiv (X : Stand p l e R s m args below meth c T locs cells slots) (hx : p.tables.exec = Jvm.exec) (hby : c.code = code) {x y : Int32} (hd : decode code pc = .ok (.idiv, 1)) (hp : pc + 1 = pc') (hy : y ≠ 0) (k : GolF p e below Fe Qf kc ks T m pc' Ls (.int (x / y) :: rest)) : GolF p e below Fe Qf kc ks T m pc Ls (.int y :: .int x :: rest) := by
  subst hp
  exact Gol.step (fun _ k => XS.idiv X.here hx rfl (hb hby hd) rfl hy k) k
theorem Gol.irem (X : Stand p l e R s m args below meth c T locs cells slots) (hx : p.tables.exec = Jvm.exec) (hby : c.code = code) {x y : Int32} (hd : decode code pc = .ok (.irem, 1)) (hp : pc + 1 = pc') (hy : y ≠ 0) (k : GolF p e below Fe Qf kc ks T m pc' Ls (.int (x % y) :: rest)) : GolF p e below Fe Qf kc ks T m pc Ls (.int y :: .int x :: rest) := by
  subst hp
  exact Gol.step (fun _ k => Jvm.RoadKit.iremM X hx rfl (hb hby hd) rfl hy k) k
theorem Gol.ldiv (X : Stand p l e R s m args below meth c T locs cells slots) (hx : p.tables.exec = Jvm.exec) (hby : c.code = code) {x y : Int64} (hd : decode code pc = .ok (.ldiv, 1)) (hp : pc + 1 = pc') (hy : y ≠ 0) (k : GolF p e below Fe Qf kc ks T m pc' Ls (.long (x / y) :: rest)) : GolF p e below Fe Qf kc ks T m pc Ls (.long y :: .long x :: rest) := by
  subst hp
  exact Gol.step (fun _ k => XT.ldiv X.here hx rfl (hb hby hd) rfl hy k) k
theorem Gol.lrem (X : Stand p l e R s m args below meth c T locs cells slots) (hx : p.tables.exec = Jvm.exec) (hby : c.code = code) {x y : Int64} (hd : decode code pc = .ok (.lrem, 1)) (hp : pc + 1 = pc') (hy : y ≠ 0) (k : GolF p e below Fe Qf kc ks T m pc' Ls (.long (x - (x / y) * y) :: rest)) : GolF p e below Fe Qf kc ks T m pc Ls (.long y :: .long x :: rest) := by
  subst hp
  exact Gol.step (fun _ k => XT.lrem X.here hx rfl (hb hby hd) rfl hy k) k
theorem Gol.iinc (X : Stand p l e R s m args below meth c T locs cells slots) (hx : p.tables.exec = Jvm.exec) (hby : c.code = code) {k : Nat} {cst : Int} {x : Int32} (hd : decode code pc = .ok (.iinc k cst, 3)) (hp : pc + 3 = pc') (hl : Ls[k]? = some (.val (.int x))) (hl' : storeLocals Ls k (.int (x + Int32.ofInt cst)) = some l') (k : GolF p e below Fe Qf kc ks T m pc' l' rest) : GolF p e below Fe Qf kc ks T m pc Ls rest := by
  subst hp
  exact Gol.step (fun _ k => XS.iinc X.here hx rfl (hb hby hd) hl hl' k) k
theorem Gol.dup (X : Stand p l e R s m args below meth c T locs cells slots) (hx : p.tables.exec = Jvm.exec) (hby : c.code = code) {x : Value} (hd : decode code pc = .ok (.dup, 1)) (hp : pc + 1 = pc') (hc : x.category = 1) (k : GolF p e below Fe Qf kc ks T m pc' Ls (x :: x :: rest)) : GolF p e below Fe Qf kc ks T m pc Ls (x :: rest) := by
  subst hp
  exact Gol.step (fun _ k => XS.dup X.here hx rfl (hb hby hd) rfl hc k) k
theorem Gol.pop (X : Stand p l e R s m args below meth c T locs cells slots) (hx : p.tables.exec = Jvm.exec) (hby : c.code = code) {x : Value} (hd : decode code pc = .ok (.pop, 1)) (hp : pc + 1 = pc') (hc : x.category = 1) (k : GolF p e below Fe Qf kc ks T m pc' Ls rest) : GolF p e below Fe Qf kc ks T m pc Ls (x :: rest) := by
  subst hp
  exact Gol.step (fun _ k => XT.pop X.here hx rfl (hb hby hd) rfl hc k) k
theorem Gol.dupX1 (X : Stand p l e R s m args below meth c T locs cells slots) (hx : p.tables.exec = Jvm.exec) (hby : c.code = code) {x y : Value} (hd : decode code pc = .ok (.dup_x1, 1)) (hp : pc + 1 = pc') (hc : x.category = 1) (hc' : y.category = 1) (k : GolF p e below Fe Qf kc ks T m pc' Ls (x :: y :: x :: rest)) : GolF p e below Fe Qf kc ks T m pc Ls (x :: y :: rest) := by
  subst hp
  exact Gol.step (fun _ k => XT.dupX1 X.here hx rfl (hb hby hd) rfl hc hc' k) k
theorem Gol.dup2 (X : Stand p l e R s m args below meth c T locs cells slots) (hx : p.tables.exec = Jvm.exec) (hby : c.code = code) {x y : Value} (hd : decode code pc = .ok (.dup2, 1)) (hp : pc + 1 = pc') (hc : x.category = 1) (hc' : y.category = 1) (k : GolF p e below Fe Qf kc ks T m pc' Ls (x :: y :: x :: y :: rest)) : GolF p e below Fe Qf kc ks T m pc Ls (x :: y :: rest) := by
  subst hp
  exact Gol.step (fun _ k => XT.dup2 X.here hx rfl (hb hby hd) rfl hc hc' k) k
theorem Gol.dup2L (X : Stand p l e R s m args below meth c T locs cells slots) (hx : p.tables.exec = Jvm.exec) (hby : c.code = code) {x : Int64} (hd : decode code pc = .ok (.dup2, 1)) (hp : pc + 1 = pc') (k : GolF p e below Fe Qf kc ks T m pc' Ls (.long x :: .long x :: rest)) : GolF p e below Fe Qf kc ks T m pc Ls (.long x :: rest) := by
  subst hp
  exact Gol.step (fun _ k => XT.dup2L X.here hx rfl (hb hby hd) rfl k) k
theorem Gol.goto (X : Stand p l e R s m args below meth c T locs cells slots) (hx : p.tables.exec = Jvm.exec) (hby : c.code = code) {o : Int} (hd : decode code pc = .ok (.goto o, 3)) (hp : (pc : Int) + o = (pc' : Int)) (k : GolF p e below Fe Qf kc ks T m pc' Ls rest) : GolF p e below Fe Qf kc ks T m pc Ls rest :=
  Gol.step (fun _ k => XS.goto X.here hx rfl (pc0 := pc) rfl (hb hby hd) (by rw [hp]; exact Int.natCast_nonneg _) (by rw [hp]; rfl) k) k
theorem Gol.ifYes (X : Stand p l e R s m args below meth c T locs cells slots) (hx : p.tables.exec = Jvm.exec) (hby : c.code = code) {o : Int} {cd : ClassFile.Cond} {x : Int32} (hd : decode code pc = .ok (.ifCond cd o, 3)) (hp : (pc : Int) + o = (pc' : Int)) (hc : ifCond.holds cd x = true) (k : GolF p e below Fe Qf kc ks T m pc' Ls rest) : GolF p e below Fe Qf kc ks T m pc Ls (.int x :: rest) :=
  Gol.step (fun _ k => XS.ifYes X.here hx rfl (pc0 := pc) rfl (hb hby hd) rfl hc (by rw [hp]; exact Int.natCast_nonneg _) (by rw [hp]; rfl) k) k
theorem Gol.icmpYes (X : Stand p l e R s m args below meth c T locs cells slots) (hx : p.tables.exec = Jvm.exec) (hby : c.code = code) {o : Int} {cd : ClassFile.Cond} {x y : Int32} (hd : decode code pc = .ok (.if_icmp cd o, 3)) (hp : (pc : Int) + o = (pc' : Int)) (hc : if_icmp.holds cd x y = true) (k : GolF p e below Fe Qf kc ks T m pc' Ls rest) : GolF p e below Fe Qf kc ks T m pc Ls (.int y :: .int x :: rest) :=
  Gol.step (fun _ k => XS.icmpYes X.here hx rfl (pc0 := pc) rfl (hb hby hd) rfl hc (by rw [hp]; exact Int.natCast_nonneg _) (by rw [hp]; rfl) k) k
theorem Gol.ifNo (X : Stand p l e R s m args below meth c T locs cells slots) (hx : p.tables.exec = Jvm.exec) (hby : c.code = code) {o : Int} {cd : ClassFile.Cond} {x : Int32} (hd : decode code pc = .ok (.ifCond cd o, 3)) (hp : pc + 3 = pc') (hc : ifCond.holds cd x = false) (k : GolF p e below Fe Qf kc ks T m pc' Ls rest) : GolF p e below Fe Qf kc ks T m pc Ls (.int x :: rest) := by
  subst hp
  exact Gol.step (fun _ k => XS.ifNo X.here hx rfl (hb hby hd) rfl hc k) k
theorem Gol.icmpNo (X : Stand p l e R s m args below meth c T locs cells slots) (hx : p.tables.exec = Jvm.exec) (hby : c.code = code) {o : Int} {cd : ClassFile.Cond} {x y : Int32} (hd : decode code pc = .ok (.if_icmp cd o, 3)) (hp : pc + 3 = pc') (hc : if_icmp.holds cd x y = false) (k : GolF p e below Fe Qf kc ks T m pc' Ls rest) : GolF p e below Fe Qf kc ks T m pc Ls (.int y :: .int x :: rest) := by
  subst hp
  exact Gol.step (fun _ k => XS.icmpNo X.here hx rfl (hb hby hd) rfl hc k) k
theorem Gol.ifnullYes (X : Stand p l e R s m args below meth c T locs cells slots) (hx : p.tables.exec = Jvm.exec) (hby : c.code = code) {o : Int} (hd : decode code pc = .ok (.ifnull o, 3)) (hp : (pc : Int) + o = (pc' : Int)) (k : GolF p e below Fe Qf kc ks T m pc' Ls rest) : GolF p e below Fe Qf kc ks T m pc Ls (.null :: rest) :=
  Gol.step (fun _ k => XS.ifnullYes X.here hx rfl (pc0 := pc) rfl (hb hby hd) rfl (by rw [hp]; exact Int.natCast_nonneg _) (by rw [hp]; rfl) k) k
theorem Gol.ifnullNo (X : Stand p l e R s m args below meth c T locs cells slots) (hx : p.tables.exec = Jvm.exec) (hby : c.code = code) {o : Int} {b : Addr} (hd : decode code pc = .ok (.ifnull o, 3)) (hp : pc + 3 = pc') (k : GolF p e below Fe Qf kc ks T m pc' Ls rest) : GolF p e below Fe Qf kc ks T m pc Ls (.ref b :: rest) := by
  subst hp
  exact Gol.step (fun _ k => XS.ifnullNo X.here hx rfl (hb hby hd) rfl k) k
theorem Gol.ifnonnullYes (X : Stand p l e R s m args below meth c T locs cells slots) (hx : p.tables.exec = Jvm.exec) (hby : c.code = code) {o : Int} {b : Addr} (hd : decode code pc = .ok (.ifnonnull o, 3)) (hp : (pc : Int) + o = (pc' : Int)) (k : GolF p e below Fe Qf kc ks T m pc' Ls rest) : GolF p e below Fe Qf kc ks T m pc Ls (.ref b :: rest) :=
  Gol.step (fun _ k => XT.ifnonnullYes X.here hx rfl (pc0 := pc) rfl (hb hby hd) rfl (by rw [hp]; exact Int.natCast_nonneg _) (by rw [hp]; rfl) k) k
theorem Gol.ifnonnullNo (X : Stand p l e R s m args below meth c T locs cells slots) (hx : p.tables.exec = Jvm.exec) (hby : c.code = code) {o : Int} (hd : decode code pc = .ok (.ifnonnull o, 3)) (hp : pc + 3 = pc') (k : GolF p e below Fe Qf kc ks T m pc' Ls rest) : GolF p e below Fe Qf kc ks T m pc Ls (.null :: rest) := by
  subst hp
  exact Gol.step (fun _ k => XT.ifnonnullNo X.here hx rfl (hb hby hd) rfl k) k
theorem Gol.acmp (X : Stand p l e R s m args below meth c T locs cells slots) (hx : p.tables.exec = Jvm.exec) (hby : c.code = code) {cd : ACond} {o : Int} {x y : Value} (same : Bool) (hd : decode code pc = .ok (.if_acmp cd o, 3)) (h1 : x.isRef = true) (h2 : y.isRef = true) (hq : decide (x = y) = same) (ho : 0 ≤ (pc : Int) + o) (hp : pc' = if acV cd same = true then ((pc : Int) + o).toNat else pc + 3) (k : GolF p e below Fe Qf kc ks T m pc' Ls rest) : GolF p e below Fe Qf kc ks T m pc Ls (y :: x :: rest) :=
  Gol.step (fun _ k => Jvm.RoadKit.acmp (g := mkF m pc Ls (y :: x :: rest)) X hx rfl h1 h2 (pc0 := pc) (pc' := pc') rfl (hb hby hd) rfl hq ho hp k) k
theorem Gol.ldcInt (X : Stand p l e R s m args below meth c T locs cells slots) (hx : p.tables.exec = Jvm.exec) (hby : c.code = code) (hZ : Z.Warmed39 s.vm) {own : String} (hown : s.vm.findClass own = some m.cls) {index : Nat} {v : Int32} (hd : decode code pc = .ok (.ldc index, 2)) (hp : pc + 2 = pc') (w : (Cond.constant own index v).before a0 Z = true) (k : GolF p e below Fe Qf kc ks T m pc' Ls (.int v :: rest)) : GolF p e below Fe Qf kc ks T m pc Ls rest := by
  subst hp
  exact Gol.step (fun _ k => X.ldcInt hx hown (mvT hZ w) (g := mkF m pc Ls rest) rfl (hb hby hd) _ k) k
theorem Gol.ldcwInt (X : Stand p l e R s m args below meth c T locs cells slots) (hx : p.tables.exec = Jvm.exec) (hby : c.code = code) (hZ : Z.Warmed39 s.vm) {own : String} (hown : s.vm.findClass own = some m.cls) {index : Nat} {v : Int32} (hd : decode code pc = .ok (.ldc_w index, 3)) (hp : pc + 3 = pc') (w : (Cond.constant own index v).before a0 Z = true) (k : GolF p e below Fe Qf kc ks T m pc' Ls (.int v :: rest)) : GolF p e below Fe Qf kc ks T m pc Ls rest := by
  subst hp
  exact Gol.step (fun _ k => X.ldcwInt hx hown (mvT hZ w) (g := mkF m pc Ls rest) rfl (hb hby hd) _ k) k
theorem Gol.ldc2Long (X : Stand p l e R s m args below meth c T locs cells slots) (hx : p.tables.exec = Jvm.exec) (hby : c.code = code) (hZ : Z.Warmed39 s.vm) {own : String} (hown : s.vm.findClass own = some m.cls) {index : Nat} {v : Int64} (hd : decode code pc = .ok (.ldc2_w index, 3)) (hp : pc + 3 = pc') (w : (Cond.constantLong own index v).before a0 Z = true) (k : GolF p e below Fe Qf kc ks T m pc' Ls (.long v :: rest)) : GolF p e below Fe Qf kc ks T m pc Ls rest := by
  subst hp
  exact Gol.step (fun _ k => X.ldc2Long hx hown (mvT hZ w) (g := mkF m pc Ls rest) rfl (hb hby hd) _ k) k
theorem Gol.iaload (X : Stand p l e R s m args below meth c T locs cells slots) (hx : p.tables.exec = Jvm.exec) (hby : c.code = code) (hZ : Z.Warmed39 s.vm) (eT : T.heap = h) {a : Addr} {ka : ClassId} {z j : Int32} {vs : List Value} {dv : Value} {v : Int32} (A : Arv Z h a ka .int z vs dv) (hd : decode code pc = .ok (.iaload, 1)) (hp : pc + 1 = pc') (hj : ¬ j < 0 ∧ j < z) (hv : vs.getD j.toNatClampNeg dv = .int v) (k : GolF p e below Fe Qf kc ks T m pc' Ls (.int v :: rest)) : GolF p e below Fe Qf kc ks T m pc Ls (.int j :: .ref a :: rest) := by
  subst hp
  obtain ⟨cl, Ar, -, S, -, Hs, -⟩ := A
  have hin := inb_of S hj
  exact Gol.step (fun _ k => X.iaload hx (by rw [eT]; exact Ar.1) (State.isArrayOf_alike hZ.alike Ar.2.1) Ar.2.2 hin (Has.at Hs hin hv) (g := mkF m pc Ls (.int j :: .ref a :: rest)) rfl rfl (hb hby hd) _ k) k
theorem Gol.baload (X : Stand p l e R s m args below meth c T locs cells slots) (hx : p.tables.exec = Jvm.exec) (hby : c.code = code) (hZ : Z.Warmed39 s.vm) (eT : T.heap = h) {a : Addr} {ka : ClassId} {z j : Int32} {vs : List Value} {dv : Value} {v : Int32} (A : Arv Z h a ka .byte z vs dv) (hd : decode code pc = .ok (.baload, 1)) (hp : pc + 1 = pc') (hj : ¬ j < 0 ∧ j < z) (hv : vs.getD j.toNatClampNeg dv = .int v) (k : GolF p e below Fe Qf kc ks T m pc' Ls (.int v :: rest)) : GolF p e below Fe Qf kc ks T m pc Ls (.int j :: .ref a :: rest) := by
  subst hp
  obtain ⟨cl, Ar, -, S, -, Hs, -⟩ := A
  have hin := inb_of S hj
  exact Gol.step (fun _ k => X.baloadBytes hx (by rw [eT]; exact Ar.1) (State.isArrayOf_alike hZ.alike Ar.2.1) Ar.2.2 hin (Has.at Hs hin hv) (g := mkF m pc Ls (.int j :: .ref a :: rest)) rfl rfl (hb hby hd) _ k) k
theorem Gol.caload (X : Stand p l e R s m args below meth c T locs cells slots) (hx : p.tables.exec = Jvm.exec) (hby : c.code = code) (hZ : Z.Warmed39 s.vm) (eT : T.heap = h) {a : Addr} {ka : ClassId} {z j : Int32} {vs : List Value} {dv : Value} {v : Int32} (A : Arv Z h a ka .char z vs dv) (hd : decode code pc = .ok (.caload, 1)) (hp : pc + 1 = pc') (hj : ¬ j < 0 ∧ j < z) (hv : vs.getD j.toNatClampNeg dv = .int v) (k : GolF p e below Fe Qf kc ks T m pc' Ls (.int v :: rest)) : GolF p e below Fe Qf kc ks T m pc Ls (.int j :: .ref a :: rest) := by
  subst hp
  obtain ⟨cl, Ar, -, S, -, Hs, -⟩ := A
  have hin := inb_of S hj
  exact Gol.step (fun _ k => X.caload hx (by rw [eT]; exact Ar.1) (State.isArrayOf_alike hZ.alike Ar.2.1) Ar.2.2 hin (Has.at Hs hin hv) (g := mkF m pc Ls (.int j :: .ref a :: rest)) rfl rfl (hb hby hd) _ k) k
theorem Gol.laload (X : Stand p l e R s m args below meth c T locs cells slots) (hx : p.tables.exec = Jvm.exec) (hby : c.code = code) (hZ : Z.Warmed39 s.vm) (eT : T.heap = h) {a : Addr} {ka : ClassId} {z j : Int32} {vs : List Value} {dv : Value} {v : Int64} (A : Arv Z h a ka .long z vs dv) (hd : decode code pc = .ok (.laload, 1)) (hp : pc + 1 = pc') (hj : ¬ j < 0 ∧ j < z) (hv : vs.getD j.toNatClampNeg dv = .long v) (k : GolF p e below Fe Qf kc ks T m pc' Ls (.long v :: rest)) : GolF p e below Fe Qf kc ks T m pc Ls (.int j :: .ref a :: rest) := by
  subst hp
  obtain ⟨cl, Ar, -, S, -, Hs, -⟩ := A
  have hin := inb_of S hj
  exact Gol.step (fun _ k => X.laload hx (by rw [eT]; exact Ar.1) (State.isArrayOf_alike hZ.alike Ar.2.1) Ar.2.2 hin (Has.at Hs hin hv) (g := mkF m pc Ls (.int j :: .ref a :: rest)) rfl rfl (hb hby hd) _ k) k
theorem Gol.aaload (X : Stand p l e R s m args below meth c T locs cells slots) (hx : p.tables.exec = Jvm.exec) (hby : c.code = code) (hZ : Z.Warmed39 s.vm) (eT : T.heap = h) {a : Addr} {ka : ClassId} {ty : FieldType} {z j : Int32} {vs : List Value} {dv v : Value} (A : Arv Z h a ka ty z vs dv) (hd : decode code pc = .ok (.aaload, 1)) (hp : pc + 1 = pc') (ht : ty.isReference = true) (hj : ¬ j < 0 ∧ j < z) (hv : vs.getD j.toNatClampNeg dv = v) (k : GolF p e below Fe Qf kc ks T m pc' Ls (v :: rest)) : GolF p e below Fe Qf kc ks T m pc Ls (.int j :: .ref a :: rest) := by
  subst hp
  obtain ⟨cl, Ar, -, S, -, Hs, -⟩ := A
  have hin := inb_of S hj
  exact Gol.step (fun _ k => X.aaload hx (by rw [eT]; exact Ar.1) (State.isArrayOf_alike hZ.alike Ar.2.1) ht Ar.2.2 hin (Has.at Hs hin hv) (g := mkF m pc Ls (.int j :: .ref a :: rest)) rfl rfl (hb hby hd) _ k) k
theorem Gol.alen (X : Stand p l e R s m args below meth c T locs cells slots) (hx : p.tables.exec = Jvm.exec) (hby : c.code = code) (hZ : Z.Warmed39 s.vm) (eT : T.heap = h) {a : Addr} {ka : ClassId} {ty : FieldType} {z : Int32} {vs : List Value} {dv : Value} (A : Arv Z h a ka ty z vs dv) (hd : decode code pc = .ok (.arraylength, 1)) (hp : pc + 1 = pc') (k : GolF p e below Fe Qf kc ks T m pc' Ls (.int z :: rest)) : GolF p e below Fe Qf kc ks T m pc Ls (.ref a :: rest) := by
  subst hp
  obtain ⟨cl, Ar, -, S, M, -, -⟩ := A
  rw [← len_of S M] at k
  exact Gol.step (fun _ k => X.arraylength hx (by rw [eT]; exact Ar.1) (State.isArrayOf_alike hZ.alike Ar.2.1) (g := mkF m pc Ls (.ref a :: rest)) rfl rfl (hb hby hd) _ k) k
theorem Gol.iastore (X : Stand p l e R s m args below meth c T locs cells slots) (hx : p.tables.exec = Jvm.exec) (hby : c.code = code) (hZ : Z.Warmed39 s.vm) (eT : T.heap = h) {a : Addr} {ka : ClassId} {z j : Int32} {x : Int32} {vs : List Value} {dv : Value} (A : Arv Z h a ka .int z vs dv) (hd : decode code pc = .ok (.iastore, 1)) (hp : pc + 1 = pc') (hj : ¬ j < 0 ∧ j < z) (i : Nat) (hi : j.toNatClampNeg = i) (hl : i < vs.length)
    (k : ∀ (T' : State) (h' : Heap), Stand p l e R s m args below meth c T' (locs ++ [⟨a, j.toNatClampNeg⟩]) cells slots → T'.heap = h' → Wr h h' a j.toNatClampNeg (.int x) → Arv Z h' a ka .int z (vs.set i (.int x)) dv → GolF p e below Fe Qf kc ks T' m pc' Ls rest) : GolF p e below Fe Qf kc ks T m pc Ls (.int x :: .int j :: .ref a :: rest) := by
  subst hp
  obtain ⟨cl, Ar, q, S, M, Hs, G⟩ := A
  have hin := inb_of S hj
  obtain ⟨T', h', X', e', W, st⟩ := stI X hx hZ eT Ar (j := j) hin (g := mkF m pc Ls (.int x :: .int j :: .ref a :: rest)) rfl rfl (hb hby hd)
  exact Gol.step st (k T' h' X' e' W (Arv.set Ar q S M Hs G rfl W i hi hl))
theorem Gol.lastore (X : Stand p l e R s m args below meth c T locs cells slots) (hx : p.tables.exec = Jvm.exec) (hby : c.code = code) (hZ : Z.Warmed39 s.vm) (eT : T.heap = h) {a : Addr} {ka : ClassId} {z j : Int32} {x : Int64} {vs : List Value} {dv : Value} (A : Arv Z h a ka .long z vs dv) (hd : decode code pc = .ok (.lastore, 1)) (hp : pc + 1 = pc') (hj : ¬ j < 0 ∧ j < z) (i : Nat) (hi : j.toNatClampNeg = i) (hl : i < vs.length)
    (k : ∀ (T' : State) (h' : Heap), Stand p l e R s m args below meth c T' (locs ++ [⟨a, j.toNatClampNeg⟩]) cells slots → T'.heap = h' → Wr h h' a j.toNatClampNeg (.long x) → Arv Z h' a ka .long z (vs.set i (.long x)) dv → GolF p e below Fe Qf kc ks T' m pc' Ls rest) : GolF p e below Fe Qf kc ks T m pc Ls (.long x :: .int j :: .ref a :: rest) := by
  subst hp
  obtain ⟨cl, Ar, q, S, M, Hs, G⟩ := A
  have hin := inb_of S hj
  obtain ⟨T', h', X', e', W, st⟩ := stJ X hx hZ eT Ar (j := j) hin (g := mkF m pc Ls (.long x :: .int j :: .ref a :: rest)) rfl rfl (hb hby hd)
  exact Gol.step st (k T' h' X' e' W (Arv.set Ar q S M Hs G rfl W i hi hl))
theorem Gol.bastore (X : Stand p l e R s m args below meth c T locs cells slots) (hx : p.tables.exec = Jvm.exec) (hby : c.code = code) (hZ : Z.Warmed39 s.vm) (eT : T.heap = h) {a : Addr} {ka : ClassId} {z j : Int32} {x : Int32} {vs : List Value} {dv : Value} (A : Arv Z h a ka .byte z vs dv) (hd : decode code pc = .ok (.bastore, 1)) (hp : pc + 1 = pc') (hj : ¬ j < 0 ∧ j < z) (i : Nat) (hi : j.toNatClampNeg = i) (hl : i < vs.length)
    (k : ∀ (T' : State) (h' : Heap), Stand p l e R s m args below meth c T' (locs ++ [⟨a, j.toNatClampNeg⟩]) cells slots → T'.heap = h' → Wr h h' a j.toNatClampNeg (.int (nar .byte x)) → Arv Z h' a ka .byte z (vs.set i (.int (nar .byte x))) dv → GolF p e below Fe Qf kc ks T' m pc' Ls rest) : GolF p e below Fe Qf kc ks T m pc Ls (.int x :: .int j :: .ref a :: rest) := by
  subst hp
  obtain ⟨cl, Ar, q, S, M, Hs, G⟩ := A
  have hin := inb_of S hj
  obtain ⟨T', h', X', e', W, st⟩ := stB X hx hZ eT Ar (j := j) hin (g := mkF m pc Ls (.int x :: .int j :: .ref a :: rest)) rfl rfl (hb hby hd)
  exact Gol.step st (k T' h' X' e' W (Arv.set Ar q S M Hs G (fits_nar_byte _) W i hi hl))
theorem Gol.castore (X : Stand p l e R s m args below meth c T locs cells slots) (hx : p.tables.exec = Jvm.exec) (hby : c.code = code) (hZ : Z.Warmed39 s.vm) (eT : T.heap = h) {a : Addr} {ka : ClassId} {z j : Int32} {x : Int32} {vs : List Value} {dv : Value} (A : Arv Z h a ka .char z vs dv) (hd : decode code pc = .ok (.castore, 1)) (hp : pc + 1 = pc') (hj : ¬ j < 0 ∧ j < z) (i : Nat) (hi : j.toNatClampNeg = i) (hl : i < vs.length)
    (k : ∀ (T' : State) (h' : Heap), Stand p l e R s m args below meth c T' (locs ++ [⟨a, j.toNatClampNeg⟩]) cells slots → T'.heap = h' → Wr h h' a j.toNatClampNeg (.int (nar .char x)) → Arv Z h' a ka .char z (vs.set i (.int (nar .char x))) dv → GolF p e below Fe Qf kc ks T' m pc' Ls rest) : GolF p e below Fe Qf kc ks T m pc Ls (.int x :: .int j :: .ref a :: rest) := by
  subst hp
  obtain ⟨cl, Ar, q, S, M, Hs, G⟩ := A
  have hin := inb_of S hj
  obtain ⟨T', h', X', e', W, st⟩ := stC X hx hZ eT Ar (j := j) hin (g := mkF m pc Ls (.int x :: .int j :: .ref a :: rest)) rfl rfl (hb hby hd)
  exact Gol.step st (k T' h' X' e' W (Arv.set Ar q S M Hs G (fits_nar_char _) W i hi hl))
theorem Gol.aastore (X : Stand p l e R s m args below meth c T locs cells slots) (hx : p.tables.exec = Jvm.exec) (hby : c.code = code) (hZ : Z.Warmed39 s.vm) (eT : T.heap = h) {a : Addr} {ka : ClassId} {z j : Int32} {x : Value} {ty : FieldType} {vs : List Value} {dv : Value} (A : Arv Z h a ka ty z vs dv) (hd : decode code pc = .ok (.aastore, 1)) (hp : pc + 1 = pc') (hj : ¬ j < 0 ∧ j < z) (i : Nat) (hi : j.toNatClampNeg = i) (hl : i < vs.length) (ht : ty.isReference = true) (hf : fits ty x = true) (so : ∀ cl : Cell, Arr Z h a cl ty → cl.cls = ka → Sto Z h a x)
    (k : ∀ (T' : State) (h' : Heap), Stand p l e R s m args below meth c T' (locs ++ [⟨a, j.toNatClampNeg⟩]) cells slots → T'.heap = h' → Wr h h' a j.toNatClampNeg x → Arv Z h' a ka ty z (vs.set i x) dv → GolF p e below Fe Qf kc ks T' m pc' Ls rest) : GolF p e below Fe Qf kc ks T m pc Ls (x :: .int j :: .ref a :: rest) := by
  subst hp
  obtain ⟨cl, Ar, q, S, M, Hs, G⟩ := A
  have hin := inb_of S hj
  obtain ⟨T', h', X', e', W, st⟩ := stR X hx hZ eT Ar (j := j) hin ht (so cl Ar q) (g := mkF m pc Ls (x :: .int j :: .ref a :: rest)) rfl rfl (hb hby hd)
  exact Gol.step st (k T' h' X' e' W (Arv.set Ar q S M Hs G hf W i hi hl))
theorem Gol.newarr (X : Stand p l e R s m args below meth c T locs cells slots) (hx : p.tables.exec = Jvm.exec) (hby : c.code = code) (hZ : Z.Warmed39 s.vm) {aty : ArrayType} (w : (Cond.arrayClass (newarray.typeOf aty)).before a0 Z = true) (eT : T.heap = h) {n : Int32} (cap : Nat) (hd : decode code pc = .ok (.newarray aty, 2)) (hp : pc + 2 = pc') (hn : ¬ n < 0) (hcap : n.toNatClampNeg ≤ cap) (hb8 : cap * 8 ≤ 536870912) (hc : cells + 1 ≤ R.cells) (hl : slots + cap ≤ R.slots)
    (k : ∀ (T' : State) (h' : Heap) (ka : ClassId) (b : Addr), b = h.size → Stand p l e R s m args below meth c T' locs (cells + 1) (slots + cap) → T'.heap = h' → Ext h h' → Arv Z h' b ka (newarray.typeOf aty) n [] (defaultValue (newarray.typeOf aty)) → GolF p e below Fe Qf kc ks T' m pc' Ls (.ref b :: rest)) : GolF p e below Fe Qf kc ks T m pc Ls (.int n :: rest) := by
  subst hp
  obtain ⟨T', h', ka, X', e', E, A, st⟩ := newP X hx hZ w eT (g := mkF m pc Ls (.int n :: rest)) rfl (hb hby hd) rfl hn (cap := cap) hcap hb8 hc hl
  exact Gol.step st (k T' h' ka _ rfl X' e' E (Arv.new A hn))
theorem Gol.newref (X : Stand p l e R s m args below meth c T locs cells slots) (hx : p.tables.exec = Jvm.exec) (hby : c.code = code) (hZ : Z.Warmed39 s.vm) {own : String} (hown : s.vm.findClass own = some m.cls) {C : String} {index : Nat} (w1 : (Cond.classLink own index C).before a0 Z = true) (w2 : (Cond.arrayOver (.object C)).before a0 Z = true) (eT : T.heap = h) {n : Int32} (cap : Nat) (hd : decode code pc = .ok (.anewarray index, 3)) (hp : pc + 3 = pc') (hn : ¬ n < 0) (hcap : n.toNatClampNeg ≤ cap) (hb8 : cap * 8 ≤ 536870912) (hc : cells + 1 ≤ R.cells) (hl : slots + cap ≤ R.slots)
    (k : ∀ (T' : State) (h' : Heap) (ka : ClassId) (b : Addr), b = h.size → Stand p l e R s m args below meth c T' locs (cells + 1) (slots + cap) → T'.heap = h' → Ext h h' → Arv Z h' b ka (.object C) n [] .null → Ovr Z ka C → GolF p e below Fe Qf kc ks T' m pc' Ls (.ref b :: rest)) : GolF p e below Fe Qf kc ks T m pc Ls (.int n :: rest) := by
  subst hp
  obtain ⟨T', h', ka, X', e', E, A, O, st⟩ := newR X hx hZ hown w1 w2 eT (g := mkF m pc Ls (.int n :: rest)) rfl (hb hby hd) rfl hn (cap := cap) hcap hb8 hc hl
  exact Gol.step st (k T' h' ka _ rfl X' e' E (Arv.new A hn) O)
theorem Gol.getF (X : Stand p l e R s m args below meth c T locs cells slots) (hx : p.tables.exec = Jvm.exec) (hby : c.code = code) (hZ : Z.Warmed39 s.vm) {own : String} (hown : s.vm.findClass own = some m.cls) {R0 O n d host : String} {index : Nat} (w : (Cond.fieldLink own index R0 n d).before a0 Z = true ∨ (Cond.fieldLinkNest own index R0 n d host).before a0 Z = true) (via : Via Z R0 O n d) (eT : T.heap = h) {a : Addr} {v : Value} (F : Fld Z h a O n d v) (hd : decode code pc = .ok (.getfield index, 3)) (hp : pc + 3 = pc')
    (k : ∀ T' : State, Stand p l e R s m args below meth c T' locs cells slots → T'.heap = h → GolF p e below Fe Qf kc ks T' m pc' Ls (v :: rest)) : GolF p e below Fe Qf kc ks T m pc Ls (.ref a :: rest) := by
  subst hp
  obtain ⟨T', X', e', st⟩ := getF X hx hZ hown (host := host) w via eT F (g := mkF m pc Ls (.ref a :: rest)) rfl rfl (hb hby hd)
  exact Gol.step st (k T' X' e')
theorem Gol.getS (X : Stand p l e R s m args below meth c T locs cells slots) (hx : p.tables.exec = Jvm.exec) (hby : c.code = code) (hZ : Z.Warmed39 s.vm) {own : String} (hown : s.vm.findClass own = some m.cls) {R0 O n d host : String} {index : Nat} (w : (Cond.fieldLink own index R0 n d).before a0 Z = true ∨ (Cond.fieldLinkNest own index R0 n d host).before a0 Z = true) (via : Via Z R0 O n d) (eT : T.heap = h) {v : Value} (F : Sta Z h O n d v) (hd : decode code pc = .ok (.getstatic index, 3)) (hp : pc + 3 = pc')
    (k : ∀ T' : State, Stand p l e R s m args below meth c T' locs cells slots → T'.heap = h → GolF p e below Fe Qf kc ks T' m pc' Ls (v :: rest)) : GolF p e below Fe Qf kc ks T m pc Ls rest := by
  subst hp
  obtain ⟨T', X', e', st⟩ := getS2 X hx hZ hown (host := host) w via eT F (g := mkF m pc Ls rest) rfl (hb hby hd)
  exact Gol.step st (k T' X' e')
theorem Gol.putF (X : Stand p l e R s m args below meth c T locs cells slots) (hx : p.tables.exec = Jvm.exec) (hby : c.code = code) (hZ : Z.Warmed39 s.vm) {own : String} (hown : s.vm.findClass own = some m.cls) {R0 O n d host : String} {index : Nat} (w : (Cond.fieldLink own index R0 n d).before a0 Z = true ∨ (Cond.fieldLinkNest own index R0 n d host).before a0 Z = true) (via : Via Z R0 O n d) (eT : T.heap = h) {C : String} {kk : Nat} {ty : FieldType} {a : Addr} {v old : Value} (F : Fld Z h a O n d old) (E : Exa Z h a C) (L : (Cond.lays C O n d).before a0 Z = true ∨ ((Cond.laysFinal C O n d).before a0 Z = true ∧ own = O ∧ meth.name = "<init>")) (wi : (Cond.instantiable C kk).before a0 Z = true) (hty : parseFieldDescriptor d = some ty) (hn : narrow ty v = v) (hf : fits ty v = true) (hd : decode code pc = .ok (.putfield index, 3)) (hp : pc + 3 = pc')
    (k : ∀ (T' : State) (h' : Heap), Stand p l e R s m args below meth c T' (locs ++ [⟨a, slotOf Z O n d⟩]) cells slots → T'.heap = h' → Wr h h' a (slotOf Z O n d) v → GolF p e below Fe Qf kc ks T' m pc' Ls rest) : GolF p e below Fe Qf kc ks T m pc Ls (v :: .ref a :: rest) := by
  subst hp
  obtain ⟨T', h', X', e', W, st⟩ := putF X hx hZ hown (host := host) w via eT F E L wi hty hn hf (g := mkF m pc Ls (v :: .ref a :: rest)) rfl rfl (hb hby hd)
  exact Gol.step st (k T' h' X' e' W)
theorem Gol.putFN (X : Stand p l e R s m args below meth c T locs cells slots) (hx : p.tables.exec = Jvm.exec) (hby : c.code = code) (hZ : Z.Warmed39 s.vm) {own : String} (hown : s.vm.findClass own = some m.cls) {R0 O n d : String} {index : Nat} (w : (Cond.fieldLink own index R0 n d).before a0 Z = true) (via : Via Z R0 O n d) (eT : T.heap = h) {C : String} {kk : Nat} {ty : FieldType} {a : Addr} {v v' old : Value} (F : Fld Z h a O n d old) (E : Exa Z h a C) (L : (Cond.lays C O n d).before a0 Z = true ∨ ((Cond.laysFinal C O n d).before a0 Z = true ∧ own = O ∧ meth.name = "<init>")) (wi : (Cond.instantiable C kk).before a0 Z = true) (hty : parseFieldDescriptor d = some ty) (hn : narrow ty v = v') (hf : fits ty v' = true) (hd : decode code pc = .ok (.putfield index, 3)) (hp : pc + 3 = pc')
    (k : ∀ (T' : State) (h' : Heap), Stand p l e R s m args below meth c T' (locs ++ [⟨a, slotOf Z O n d⟩]) cells slots → T'.heap = h' → Wr h h' a (slotOf Z O n d) v' → GolF p e below Fe Qf kc ks T' m pc' Ls rest) : GolF p e below Fe Qf kc ks T m pc Ls (v :: .ref a :: rest) := by
  subst hp
  obtain ⟨T', h', X', e', W, st⟩ := putFN X hx hZ hown w via eT F E L wi hty hn hf (g := mkF m pc Ls (v :: .ref a :: rest)) rfl rfl (hb hby hd)
  exact Gol.step st (k T' h' X' e' W)
theorem Gol.newO (X : Stand p l e R s m args below meth c T locs cells slots) (hx : p.tables.exec = Jvm.exec) (hby : c.code = code) (hZ : Z.Warmed39 s.vm) {own : String} (hown : s.vm.findClass own = some m.cls) {C : String} {index n : Nat} (w : (Cond.classLink own index C).before a0 Z = true) (wi : (Cond.instantiable C n).before a0 Z = true) (wz : (Cond.initialized C).before a0 Z = true) (eT : T.heap = h) (hd : decode code pc = .ok (.new index, 3)) (hp : pc + 3 = pc') (hc : cells + 1 ≤ R.cells) (hl : slots + n ≤ R.slots)
    (k : ∀ (T' : State) (h' : Heap) (b : Addr), b = h.size → Stand p l e R s m args below meth c T' locs (cells + 1) (slots + n) → T'.heap = h' → Ext h h' → Exa Z h' b C → (∀ {O nm d : String} {ty : FieldType}, Laid Z a0 C O nm d → parseFieldDescriptor d = some ty → Fld Z h' b O nm d (defaultValue ty)) → GolF p e below Fe Qf kc ks T' m pc' Ls (.ref b :: rest)) : GolF p e below Fe Qf kc ks T m pc Ls rest := by
  subst hp
  obtain ⟨T', h', X', e', E, A, D, -, st⟩ := newO X hx hZ hown w wi wz eT (g := mkF m pc Ls rest) rfl (hb hby hd) hc hl
  exact Gol.step st (k T' h' _ rfl X' e' E A D)
theorem Gol.initO (X : Stand p l e R s m args below meth c T locs cells slots) (hx : p.tables.exec = Jvm.exec) (hby : c.code = code) (hZ : Z.Warmed39 s.vm) {own : String} (hown : s.vm.findClass own = some m.cls) {index : Nat} (w1 : (Cond.methodLink own index Lib.objectInit).before a0 Z = true) (w2 : (Cond.instanceMethod Lib.objectInit).before a0 Z = true) (w3 : (Cond.code Lib.objectInit ⟨#[0xb1]⟩ 1 none).before a0 Z = true) (eT : T.heap = h) (W : Nat) {a : Addr} (hd : decode code pc = .ok (.invokespecial index, 3)) (hp : pc + 3 = pc') (hsz : Ls.size = c.maxLocals) (hf : 1 ≤ R.frames) (hW : (rest.map fun v => v.category).sum ≤ W) (hl : W + 12 ≤ R.locals)
    (k : ∀ T' : State, Stand p l e R s m args below meth c T' locs cells slots → T'.heap = h → GolF p e below Fe Qf kc ks T' m pc' Ls rest) : GolF p e below Fe Qf kc ks T m pc Ls (.ref a :: rest) := by
  subst hp
  obtain ⟨T', X', e', st⟩ := initO X hx hZ hown w1 w2 w3 eT (g := mkF m pc Ls (.ref a :: rest)) rfl hsz rfl (hb hby hd) hf (W := W) (by show 2 * 0 + _ ≤ _; rw [Nat.mul_zero, Nat.zero_add]; exact hW) hl
  exact Gol.step st (k T' X' e')
theorem Gol.castY (X : Stand p l e R s m args below meth c T locs cells slots) (hx : p.tables.exec = Jvm.exec) (hby : c.code = code) (hZ : Z.Warmed39 s.vm) {own : String} (hown : s.vm.findClass own = some m.cls) {K : String} {index : Nat} (w : (Cond.classLink own index K).before a0 Z = true) (eT : T.heap = h) {a : Addr} (F : Ins Z h a K true) (hd : decode code pc = .ok (.checkcast index, 3)) (hp : pc + 3 = pc')
    (k : ∀ T' : State, Stand p l e R s m args below meth c T' locs cells slots → T'.heap = h → GolF p e below Fe Qf kc ks T' m pc' Ls (.ref a :: rest)) : GolF p e below Fe Qf kc ks T m pc Ls (.ref a :: rest) := by
  subst hp
  obtain ⟨T', X', e', st⟩ := castY X hx hZ hown w eT F (g := mkF m pc Ls (.ref a :: rest)) rfl rfl (hb hby hd)
  exact Gol.step st (k T' X' e')
theorem Gol.instY (X : Stand p l e R s m args below meth c T locs cells slots) (hx : p.tables.exec = Jvm.exec) (hby : c.code = code) (hZ : Z.Warmed39 s.vm) {own : String} (hown : s.vm.findClass own = some m.cls) {K : String} {index : Nat} (w : (Cond.classLink own index K).before a0 Z = true) (eT : T.heap = h) {a : Addr} (F : Ins Z h a K true) (hd : decode code pc = .ok (.instanceof index, 3)) (hp : pc + 3 = pc')
    (k : ∀ T' : State, Stand p l e R s m args below meth c T' locs cells slots → T'.heap = h → GolF p e below Fe Qf kc ks T' m pc' Ls (.int 1 :: rest)) : GolF p e below Fe Qf kc ks T m pc Ls (.ref a :: rest) := by
  subst hp
  obtain ⟨T', X', e', st⟩ := instY X hx hZ hown w eT F (g := mkF m pc Ls (.ref a :: rest)) rfl rfl (hb hby hd)
  exact Gol.step st (k T' X' e')
theorem Gol.callS (X : Stand p l e R s m args below meth c T locs cells slots) (hx : p.tables.exec = Jvm.exec) (hby : c.code = code) (hZ : Z.Warmed39 s.vm) {own : String} (hown : s.vm.findClass own = some m.cls) {index : Nat} {y : MethodName} {bytes : ByteArray} {maxL : Nat} {ret : Option FieldType} {rm : Room} {Q : Option Value → Heap → List Loc → Prop} (W : Nat) (argsL : List Value) (wl : (Cond.methodLink own index y).before a0 Z = true) (ws : (Cond.static y).before a0 Z = true) (wz : (Cond.initialized y.cls).before a0 Z = true) (wc : (Cond.code y bytes maxL ret).before a0 Z = true) (hy : y.cls ≠ "java/lang/invoke/MethodHandle" ∧ y.cls ≠ "java/lang/invoke/VarHandle") (hM : MetFree l y (head1 [Cond.code y bytes maxL ret] rm) (fun aa U => aa = argsL.toArray ∧ Z.Warmed39 U.vm ∧ U.heap = h) (fun _ _ _ _ _ => True) (fun _ U o U' => ∃ v L, o = .returned v ∧ Q v U'.heap L ∧ FrameEnd U o U' L rm.cells rm.slots)) (hf : rm.frames + 1 ≤ R.frames) (hl : W + (maxL + 11) + rm.locals ≤ R.locals) (eT : T.heap = h) {st : List Value} (hsz : Ls.size = c.maxLocals) (hW : (rest.map fun v => v.category).sum ≤ W) (hc : cells + rm.cells ≤ R.cells) (hs : slots + rm.slots ≤ R.slots) (hlen : ∀ sig, parseMethodDescriptor y.desc = some sig → argsL.length = sig.parameters.length) (hst : st = argsL.reverse ++ rest) (hd : decode code pc = .ok (.invokestatic index, 3)) (hp : pc + 3 = pc')
    (k : ∀ (T' : State) (v : Option Value) (L : List Loc), Stand p l e R s m args below meth c T' (locs ++ L) (cells + rm.cells) (slots + rm.slots) → Q v T'.heap L → GolF p e below Fe Qf kc ks T' m pc' Ls (v.toList ++ rest)) : GolF p e below Fe Qf kc ks T m pc Ls st := by
  subst hp
  obtain ⟨v, _, ⟨T', L1, k1, n1⟩, -, X', ⟨Lc, hQ, l1, y1, z1⟩, st1⟩ := Jvm.LawKit.callS X hx hown (mvT hZ wl) (mvT hZ ws) (mvT hZ wz) (mvT hZ wc) hy (backOf (W := W) hM hZ wc wz hf hl) (g := mkF m pc Ls st) rfl hsz hlen hst (by show 2 * 0 + _ ≤ _; rw [Nat.mul_zero, Nat.zero_add]; exact hW) (hb hby hd) (fun _ _ => ⟨rfl, eT, hc, hs⟩)
  dsimp only [Pt.U, Pt.locs, Pt.cells, Pt.slots] at X' l1 y1 z1 st1 hQ
  subst l1 y1 z1
  exact Gol.step st1 (k T' v Lc X' hQ)
theorem Gol.callI (X : Stand p l e R s m args below meth c T locs cells slots) (hx : p.tables.exec = Jvm.exec) (hby : c.code = code) (hZ : Z.Warmed39 s.vm) {own : String} (hown : s.vm.findClass own = some m.cls) {index : Nat} {y : MethodName} {bytes : ByteArray} {maxL : Nat} {ret : Option FieldType} {rm : Room} {Q : Option Value → Heap → List Loc → Prop} (W : Nat) (argsL : List Value) {a : Addr} (wl : (Cond.methodLink own index y).before a0 Z = true) (wi : (Cond.instanceMethod y).before a0 Z = true) (wz : (Cond.initialized y.cls).before a0 Z = true) (hrt : ret = none) (wc : (Cond.code y bytes maxL ret).before a0 Z = true) (hn : y.name = "<init>") (hy : y.cls ≠ "java/lang/invoke/MethodHandle" ∧ y.cls ≠ "java/lang/invoke/VarHandle") (hM : MetFree l y (head1 [Cond.code y bytes maxL ret] rm) (fun aa U => aa = (.ref a :: argsL).toArray ∧ Z.Warmed39 U.vm ∧ U.heap = h) (fun _ _ _ _ _ => True) (fun _ U o U' => ∃ v L, o = .returned v ∧ Q v U'.heap L ∧ FrameEnd U o U' L rm.cells rm.slots)) (hf : rm.frames + 1 ≤ R.frames) (hl : W + (maxL + 11) + rm.locals ≤ R.locals) (eT : T.heap = h) {st : List Value} (hsz : Ls.size = c.maxLocals) (hW : (rest.map fun v => v.category).sum ≤ W) (hc : cells + rm.cells ≤ R.cells) (hs : slots + rm.slots ≤ R.slots) (hlen : ∀ sig, parseMethodDescriptor y.desc = some sig → argsL.length = sig.parameters.length) (hst : st = argsL.reverse ++ .ref a :: rest) (hd : decode code pc = .ok (.invokespecial index, 3)) (hp : pc + 3 = pc')
    (k : ∀ (T' : State) (v : Option Value) (L : List Loc), Stand p l e R s m args below meth c T' (locs ++ L) (cells + rm.cells) (slots + rm.slots) → Q v T'.heap L → GolF p e below Fe Qf kc ks T' m pc' Ls (v.toList ++ rest)) : GolF p e below Fe Qf kc ks T m pc Ls st := by
  subst hp hrt
  obtain ⟨v, _, ⟨T', L1, k1, n1⟩, -, X', ⟨Lc, hQ, l1, y1, z1⟩, st1⟩ := X.specialBack hx hn hown (mvT hZ wl) (mvT hZ wi) (mvT hZ wc) hy (backOf (W := W) hM hZ wc wz hf hl) (g := mkF m pc Ls st) rfl hsz (Steps.refl _) (a := a) hlen hst (by show 2 * 0 + _ ≤ _; rw [Nat.mul_zero, Nat.zero_add]; exact hW) (hb hby hd) (fun _ _ => ⟨rfl, eT, hc, hs⟩)
  dsimp only [Pt.U, Pt.locs, Pt.cells, Pt.slots] at X' l1 y1 z1 st1 hQ
  subst l1 y1 z1
  exact Gol.step (fun _ k => st1.trans k) (k T' v Lc X' hQ)
theorem Gol.callV (X : Stand p l e R s m args below meth c T locs cells slots) (hx : p.tables.exec = Jvm.exec) (hby : c.code = code) (hZ : Z.Warmed39 s.vm) {own : String} (hown : s.vm.findClass own = some m.cls) {index : Nat} {y z : MethodName} {C : String} {bytes : ByteArray} {maxL : Nat} {ret : Option FieldType} {rm : Room} {Q : Option Value → Heap → List Loc → Prop} (W : Nat) (argsL : List Value) {a : Addr} (wl : (Cond.methodLink own index y).before a0 Z = true) (wd : (Cond.declares y).before a0 Z = true) (nf : NotFace s y) (wse : (Cond.selects C y z).before a0 Z = true) (wi : (Cond.instanceMethod z).before a0 Z = true) (wz : (Cond.initialized z.cls).before a0 Z = true) (wc : (Cond.code z bytes maxL ret).before a0 Z = true) (hy : y.cls ≠ "java/lang/invoke/MethodHandle" ∧ y.cls ≠ "java/lang/invoke/VarHandle") (E : Exa Z h a C) (hM : MetFree l z (head1 [Cond.code z bytes maxL ret] rm) (fun aa U => aa = (.ref a :: argsL).toArray ∧ Z.Warmed39 U.vm ∧ U.heap = h) (fun _ _ _ _ _ => True) (fun _ U o U' => ∃ v L, o = .returned v ∧ Q v U'.heap L ∧ FrameEnd U o U' L rm.cells rm.slots)) (hf : rm.frames + 1 ≤ R.frames) (hl : W + (maxL + 11) + rm.locals ≤ R.locals) (eT : T.heap = h) {st : List Value} (hsz : Ls.size = c.maxLocals) (hW : (rest.map fun v => v.category).sum ≤ W) (hc : cells + rm.cells ≤ R.cells) (hs : slots + rm.slots ≤ R.slots) (hlen : ∀ sig, parseMethodDescriptor y.desc = some sig → argsL.length = sig.parameters.length) (hst : st = argsL.reverse ++ .ref a :: rest) (hd : decode code pc = .ok (.invokevirtual index, 3)) (hp : pc + 3 = pc')
    (k : ∀ (T' : State) (v : Option Value) (L : List Loc), Stand p l e R s m args below meth c T' (locs ++ L) (cells + rm.cells) (slots + rm.slots) → Q v T'.heap L → GolF p e below Fe Qf kc ks T' m pc' Ls (v.toList ++ rest)) : GolF p e below Fe Qf kc ks T m pc Ls st := by
  subst hp
  obtain ⟨cq, kq, qa, qb, qc⟩ := isOf hZ eT E
  obtain ⟨v, _, ⟨T', L1, k1, n1⟩, -, X', ⟨Lc, hQ, l1, y1, z1⟩, st1⟩ := X.virtualBack hx hown (mvT hZ wl) (mvT hZ wd) nf (mvT hZ wse) (mvT hZ wi) hy (backOf (W := W) hM hZ wc wz hf hl) qa qc (g := mkF m pc Ls st) rfl hsz (Steps.refl _) hlen hst (by show 2 * 0 + _ ≤ _; rw [Nat.mul_zero, Nat.zero_add]; exact hW) (hb hby hd) (fun _ _ => ⟨rfl, eT, hc, hs⟩)
  dsimp only [Pt.U, Pt.locs, Pt.cells, Pt.slots] at X' l1 y1 z1 st1 hQ
  subst l1 y1 z1
  exact Gol.step (fun _ k => st1.trans k) (k T' v Lc X' hQ)
theorem Gol.callF (X : Stand p l e R s m args below meth c T locs cells slots) (hx : p.tables.exec = Jvm.exec) (hby : c.code = code) (hZ : Z.Warmed39 s.vm) {own : String} (hown : s.vm.findClass own = some m.cls) {index count : Nat} {y z : MethodName} {C : String} {bytes : ByteArray} {maxL : Nat} {ret : Option FieldType} {rm : Room} {Q : Option Value → Heap → List Loc → Prop} (W : Nat) (argsL : List Value) {a : Addr} (wl : (Cond.methodLink own index y).before a0 Z = true) (wd : (Cond.declares y).before a0 Z = true) (wf : (Cond.interfaceMethod y.cls y.cls y.name y.desc).before args s = true) (wse : (Cond.selects C y z).before a0 Z = true) (wi : (Cond.instanceMethod z).before a0 Z = true) (wp : (Cond.publicMethod z).before a0 Z = true) (wu : (Cond.unhidden C y.name y.desc).before a0 Z = true) (wt : (Cond.castable C y.cls).before a0 Z = true) (wz : (Cond.initialized z.cls).before a0 Z = true) (wc : (Cond.code z bytes maxL ret).before a0 Z = true) (hy : y.cls ≠ "java/lang/invoke/MethodHandle" ∧ y.cls ≠ "java/lang/invoke/VarHandle") (E : Exa Z h a C) (hM : MetFree l z (head1 [Cond.code z bytes maxL ret] rm) (fun aa U => aa = (.ref a :: argsL).toArray ∧ Z.Warmed39 U.vm ∧ U.heap = h) (fun _ _ _ _ _ => True) (fun _ U o U' => ∃ v L, o = .returned v ∧ Q v U'.heap L ∧ FrameEnd U o U' L rm.cells rm.slots)) (hf : rm.frames + 1 ≤ R.frames) (hl : W + (maxL + 11) + rm.locals ≤ R.locals) (eT : T.heap = h) {st : List Value} (hsz : Ls.size = c.maxLocals) (hW : (rest.map fun v => v.category).sum ≤ W) (hc : cells + rm.cells ≤ R.cells) (hs : slots + rm.slots ≤ R.slots) (hlen : ∀ sig, parseMethodDescriptor y.desc = some sig → argsL.length = sig.parameters.length) (hst : st = argsL.reverse ++ .ref a :: rest) (hd : decode code pc = .ok (.invokeinterface index count, 5)) (hp : pc + 5 = pc')
    (k : ∀ (T' : State) (v : Option Value) (L : List Loc), Stand p l e R s m args below meth c T' (locs ++ L) (cells + rm.cells) (slots + rm.slots) → Q v T'.heap L → GolF p e below Fe Qf kc ks T' m pc' Ls (v.toList ++ rest)) : GolF p e below Fe Qf kc ks T m pc Ls st := by
  subst hp
  obtain ⟨cq, kq, qa, qb, qc⟩ := isOf hZ eT E
  obtain ⟨v, _, ⟨T', L1, k1, n1⟩, -, X', ⟨Lc, hQ, l1, y1, z1⟩, st1⟩ := X.interfaceBack hx hown (mvT hZ wl) (mvT hZ wd) wf (mvT hZ wse) (mvT hZ wi) (mvT hZ wp) (mvT hZ wu) (mvT hZ wt) hy (backOf (W := W) hM hZ wc wz hf hl) qa qb qc (g := mkF m pc Ls st) rfl hsz (Steps.refl _) hlen hst (by show 2 * 0 + _ ≤ _; rw [Nat.mul_zero, Nat.zero_add]; exact hW) (hb hby hd) (fun _ _ => ⟨rfl, eT, hc, hs⟩)
  dsimp only [Pt.U, Pt.locs, Pt.cells, Pt.slots] at X' l1 y1 z1 st1 hQ
  subst l1 y1 z1
  exact Gol.step (fun _ k => st1.trans k) (k T' v Lc X' hQ)
theorem Gol.callP (X : Stand p l e R s m args below meth c T locs cells slots) (hx : p.tables.exec = Jvm.exec) (hby : c.code = code) (hZ : Z.Warmed39 s.vm) {own : String} (hown : s.vm.findClass own = some m.cls) {index : Nat} {y : MethodName} {C : String} {bytes : ByteArray} {maxL : Nat} {ret : Option FieldType} {rm : Room} {Q : Option Value → Heap → List Loc → Prop} (W : Nat) (argsL : List Value) {a : Addr} (wl : (Cond.methodLink own index y).before a0 Z = true) (wi : (Cond.instanceMethod y).before a0 Z = true) (wse : (Cond.selects y.cls y y).before a0 Z = true) (wp : (Cond.privateMethod y).before a0 Z = true) (wz : (Cond.initialized y.cls).before a0 Z = true) (wc : (Cond.code y bytes maxL ret).before a0 Z = true) (hy : y.cls ≠ "java/lang/invoke/MethodHandle" ∧ y.cls ≠ "java/lang/invoke/VarHandle") (E : Exa Z h a C) (hM : MetFree l y (head1 [Cond.code y bytes maxL ret] rm) (fun aa U => aa = (.ref a :: argsL).toArray ∧ Z.Warmed39 U.vm ∧ U.heap = h) (fun _ _ _ _ _ => True) (fun _ U o U' => ∃ v L, o = .returned v ∧ Q v U'.heap L ∧ FrameEnd U o U' L rm.cells rm.slots)) (hf : rm.frames + 1 ≤ R.frames) (hl : W + (maxL + 11) + rm.locals ≤ R.locals) (eT : T.heap = h) {st : List Value} (hsz : Ls.size = c.maxLocals) (hW : (rest.map fun v => v.category).sum ≤ W) (hc : cells + rm.cells ≤ R.cells) (hs : slots + rm.slots ≤ R.slots) (hlen : ∀ sig, parseMethodDescriptor y.desc = some sig → argsL.length = sig.parameters.length) (hst : st = argsL.reverse ++ .ref a :: rest) (hd : decode code pc = .ok (.invokevirtual index, 3)) (hp : pc + 3 = pc')
    (k : ∀ (T' : State) (v : Option Value) (L : List Loc), Stand p l e R s m args below meth c T' (locs ++ L) (cells + rm.cells) (slots + rm.slots) → Q v T'.heap L → GolF p e below Fe Qf kc ks T' m pc' Ls (v.toList ++ rest)) : GolF p e below Fe Qf kc ks T m pc Ls st := by
  subst hp
  obtain ⟨cq, qa, qb⟩ := E.cell
  obtain ⟨v, _, ⟨T', L1, k1, n1⟩, -, X', ⟨Lc, hQ, l1, y1, z1⟩, st1⟩ := X.privateBack hx hown (mvT hZ wl) (mvT hZ wi) (mvT hZ wse) (Cond.privateMethod_at (mvP hZ wp (args := #[]))) (mvT hZ wc) hy (backOf (W := W) hM hZ wc wz hf hl) (g := mkF m pc Ls st) rfl hsz (Steps.refl _) (a := a) (by rw [eT]; exact qa) qb hlen hst (by show 2 * 0 + _ ≤ _; rw [Nat.mul_zero, Nat.zero_add]; exact hW) (hb hby hd) (fun _ _ => ⟨rfl, eT, hc, hs⟩)
  dsimp only [Pt.U, Pt.locs, Pt.cells, Pt.slots] at X' l1 y1 z1 st1 hQ
  subst l1 y1 z1
  exact Gol.step (fun _ k => st1.trans k) (k T' v Lc X' hQ)
theorem Gol.callB (X : Stand p l e R s m args below meth c T locs cells slots) (hx : p.tables.exec = Jvm.exec) (hby : c.code = code) (hZ : Z.Warmed39 s.vm) {own : String} (hown : s.vm.findClass own = some m.cls) {index : Nat} {y : MethodName} {bytes : ByteArray} {maxL : Nat} {Q : Option Value → Heap → List Loc → Prop} (W : Nat) (argsL : List Value) {a : Addr} {ck cn : Nat} (wl : (Cond.methodLink own index y).before a0 Z = true) (wi : (Cond.instanceMethod y).before a0 Z = true) (wc : (Cond.code y bytes maxL none).before a0 Z = true) (hn : y.name = "<init>") (hy : y.cls ≠ "java/lang/invoke/MethodHandle" ∧ y.cls ≠ "java/lang/invoke/VarHandle")
    (hK : Back l R p e below s args y 3 W (fun A aa => aa = (.ref a :: argsL).toArray ∧ A.U.heap = h ∧ A.cells + ck ≤ R.cells ∧ A.slots + cn ≤ R.slots) (fun A _ v B => ∃ L, Q v B.U.heap L ∧ B.locs = A.locs ++ L ∧ B.cells = A.cells + ck ∧ B.slots = A.slots + cn)) (eT : T.heap = h) {st : List Value} (hsz : Ls.size = c.maxLocals) (hW : (rest.map fun v => v.category).sum ≤ W) (hc : cells + ck ≤ R.cells) (hs : slots + cn ≤ R.slots) (hlen : ∀ sig, parseMethodDescriptor y.desc = some sig → argsL.length = sig.parameters.length) (hst : st = argsL.reverse ++ .ref a :: rest) (hd : decode code pc = .ok (.invokespecial index, 3)) (hp : pc + 3 = pc')
    (k : ∀ (T' : State) (v : Option Value) (L : List Loc), Stand p l e R s m args below meth c T' (locs ++ L) (cells + ck) (slots + cn) → Q v T'.heap L → GolF p e below Fe Qf kc ks T' m pc' Ls (v.toList ++ rest)) : GolF p e below Fe Qf kc ks T m pc Ls st := by
  subst hp
  obtain ⟨v, _, ⟨T', L1, k1, n1⟩, -, X', ⟨Lc, hQ, l1, y1, z1⟩, st1⟩ := X.specialBack hx hn hown (mvT hZ wl) (mvT hZ wi) (mvT hZ wc) hy hK (g := mkF m pc Ls st) rfl hsz (Steps.refl _) (a := a) hlen hst (by show 2 * 0 + _ ≤ _; rw [Nat.mul_zero, Nat.zero_add]; exact hW) (hb hby hd) (fun _ _ => ⟨rfl, eT, hc, hs⟩)
  dsimp only [Pt.U, Pt.locs, Pt.cells, Pt.slots] at X' l1 y1 z1 st1 hQ
  subst l1 y1 z1
  exact Gol.step (fun _ k => st1.trans k) (k T' v Lc X' hQ)
theorem Gol.retN (X : Stand p l e R s m args below meth c T locs cells slots) (hx : p.tables.exec = Jvm.exec) (hby : c.code = code) {z : Int32} {t : FieldType} (hret : meth.sig.returnType = some t) (ht : t = .boolean ∨ t = .byte ∨ t = .char ∨ t = .short) (hlk : meth.locks = false) (hd : decode code pc = .ok (.ireturn, 1)) (eT : T.heap = h) (hq : Qf (some (.int (nar t z))) h locs) (hc : cells ≤ kc) (hs : slots ≤ ks) : GolF p e below (FrameEnd s) Qf kc ks T m pc Ls (.int z :: rest) :=
  Gol.fin X (fun h => by rw [hret] at h; cases h) hlk eT hq hc hs fun fs hr => Jvm.RoadKit.retN X hx hret ht (hb hby hd) hr
theorem Gol.retI (X : Stand p l e R s m args below meth c T locs cells slots) (hx : p.tables.exec = Jvm.exec) (hby : c.code = code) {z : Int32} (hret : meth.sig.returnType = some .int) (hlk : meth.locks = false) (hd : decode code pc = .ok (.ireturn, 1)) (eT : T.heap = h) (hq : Qf (some (.int z)) h locs) (hc : cells ≤ kc) (hs : slots ≤ ks) : GolF p e below (FrameEnd s) Qf kc ks T m pc Ls (.int z :: rest) :=
  Gol.fin X (fun h => by rw [hret] at h; cases h) hlk eT hq hc hs fun fs hr => Jvm.RoadKit.retOut X hx hret rfl (Or.inl ⟨rfl, Or.inl rfl, _, rfl⟩) (hb hby hd) hr
theorem Gol.retL (X : Stand p l e R s m args below meth c T locs cells slots) (hx : p.tables.exec = Jvm.exec) (hby : c.code = code) {z : Int64} (hret : meth.sig.returnType = some .long) (hlk : meth.locks = false) (hd : decode code pc = .ok (.lreturn, 1)) (eT : T.heap = h) (hq : Qf (some (.long z)) h locs) (hc : cells ≤ kc) (hs : slots ≤ ks) : GolF p e below (FrameEnd s) Qf kc ks T m pc Ls (.long z :: rest) :=
  Gol.fin X (fun h => by rw [hret] at h; cases h) hlk eT hq hc hs fun fs hr => Jvm.RoadKit.retOut X hx hret rfl (Or.inr (Or.inl ⟨rfl, rfl, _, rfl⟩)) (hb hby hd) hr
theorem Gol.retA (X : Stand p l e R s m args below meth c T locs cells slots) (hx : p.tables.exec = Jvm.exec) (hby : c.code = code) {w : Value} {t : FieldType} (hret : meth.sig.returnType = some t) (ht : t.isReference = true) (hw : w.isRef = true) (hlk : meth.locks = false) (hd : decode code pc = .ok (.areturn, 1)) (eT : T.heap = h) (hq : Qf (some w) h locs) (hc : cells ≤ kc) (hs : slots ≤ ks) : GolF p e below (FrameEnd s) Qf kc ks T m pc Ls (w :: rest) :=
  Gol.fin X (fun h => by rw [hret] at h; cases h) hlk eT hq hc hs fun fs hr => Jvm.RoadKit.retOut X hx hret (by rcases ref_cases hw with rfl | ⟨a, rfl⟩ <;> cases t <;> first | rfl | (simp [FieldType.isReference] at ht)) (Or.inr (Or.inr (Or.inr (Or.inr ⟨rfl, ht, hw⟩)))) (hb hby hd) hr
theorem Gol.ret0 (X : Stand p l e R s m args below meth c T locs cells slots) (hx : p.tables.exec = Jvm.exec) (hby : c.code = code) (hret : meth.sig.returnType = none) (hlk : meth.locks = false) (hd : decode code pc = .ok (.return_, 1)) (eT : T.heap = h) (hq : Qf none h locs) (hc : cells ≤ kc) (hs : slots ≤ ks) : GolF p e below (FrameEnd s) Qf kc ks T m pc Ls [] :=
  Gol.fin X (fun _ => rfl) hlk eT hq hc hs fun fs hr => X.returnOut hx hret (hb hby hd) hr
theorem Gol.retNW {vm₁ : Vm} (X : Stand p l e R (s.setVm vm₁) m args below meth c T locs cells slots) (hx : p.tables.exec = Jvm.exec) (hby : c.code = code) {n : Nat} (hS : s.Since vm₁ n) (hn : n ≤ h.size) {z : Int32} {t : FieldType} (hret : meth.sig.returnType = some t) (ht : t = .boolean ∨ t = .byte ∨ t = .char ∨ t = .short) (hlk : meth.locks = false) (hd : decode code pc = .ok (.ireturn, 1)) (eT : T.heap = h) (hq : Qf (some (.int (nar t z))) h locs) (hc : cells ≤ kc) (hs : slots ≤ ks) : GolF p e below (ReturnedEndW s) Qf kc ks T m pc Ls (.int z :: rest) :=
  Gol.finW X hS (eT ▸ hn) (fun h => by rw [hret] at h; cases h) hlk eT hq hc hs fun fs hr => Jvm.RoadKit.retN X hx hret ht (hb hby hd) hr
theorem Gol.ldcStr {vm₁ : Vm} (X : Stand p l e R (s.setVm vm₁) m args below meth c T locs cells slots) (hx : p.tables.exec = Jvm.exec) (hby : c.code = code) {own text : String} {index : Nat} (hZ : Z.Warmed39 vm₁) (hown : vm₁.findClass own = some m.cls) (w : (Cond.stringLink own index text).before a0 Z = true) (wS : ∀ a ∈ Bundle.stringAtoms, a.before a0 Z = true) (eT : T.heap = h) {k0 : Nat} (hS : s.Since vm₁ k0) (hk : k0 ≤ h.size) (n : Nat) (hd : decode code pc = .ok (.ldc index, 2)) (hp : pc + 2 = pc') (hn : 4 * text.toList.length ≤ n) (hbig : n ≤ 536870912) (hc : cells + 2 ≤ R.cells) (hl : slots + (n + 4) ≤ R.slots)
    (k : ∀ (a : Addr) (T' : State) (h' : Heap) (k1 : Nat), Stand p l e R (s.setVm T'.vm) m args below meth c T' locs (cells + 2) (slots + (n + 4)) → T'.heap = h' → Ext h h' → s.Since T'.vm k1 → k1 ≤ h'.size → Z.Warmed39 (s.setVm T'.vm).vm → (s.setVm T'.vm).vm.findClass own = some m.cls → GolF p e below Fe Qf kc ks T' m pc' Ls (.ref a :: rest)) : GolF p e below Fe Qf kc ks T m pc Ls rest := by
  subst hp
  obtain ⟨a, T', h', k1, X', e', E, S', K', Z', O', st⟩ := ldcS X hx hZ hown w wS eT hS hk (g := mkF m pc Ls rest) rfl (hb hby hd) (n := n) hn hbig hc hl
  exact Gol.step st (k a T' h' k1 X' e' E S' K' Z' O')
theorem nar_ite {P : Prop} [Decidable P] {a b : Int32} (ha : nar .boolean a = a) (hb : nar .boolean b = b) : nar .boolean (if P then a else b) = (if P then a else b) := by
  split <;> assumption
theorem tltL {x y : Int64} (h : x < y) : ifCond.holds .lt (XT.cmpL x y) = true ∧ ifCond.holds .ge (XT.cmpL x y) = false := by
  have h1 : ¬ y < x := fun q => Int64.lt_irrefl (Int64.lt_trans h q)
  have h2 : ¬ x = y := fun q => Int64.lt_irrefl (q ▸ h)
  simp [XT.cmpL, h1, h2, ifCond.holds]
theorem fltL {x y : Int64} (h : ¬ x < y) : ifCond.holds .lt (XT.cmpL x y) = false ∧ ifCond.holds .ge (XT.cmpL x y) = true := by
  by_cases h1 : y < x
  · simp [XT.cmpL, h1, ifCond.holds]
  · have h2 : x = y := Int64.le_antisymm (Int64.not_lt.mp h1) (Int64.not_lt.mp h)
    simp [XT.cmpL, h2, ifCond.holds, Int64.lt_irrefl]
theorem tgtL {x y : Int64} (h : y < x) : ifCond.holds .gt (XT.cmpL x y) = true ∧ ifCond.holds .le (XT.cmpL x y) = false := by
  simp [XT.cmpL, h, ifCond.holds]
theorem fgtL {x y : Int64} (h : ¬ y < x) : ifCond.holds .gt (XT.cmpL x y) = false ∧ ifCond.holds .le (XT.cmpL x y) = true := by
  by_cases h2 : x = y <;> simp [XT.cmpL, h, h2, ifCond.holds, Int64.lt_irrefl]
theorem teqL {x y : Int64} (h : x = y) : ifCond.holds .eq (XT.cmpL x y) = true ∧ ifCond.holds .ne (XT.cmpL x y) = false := by
  subst h; simp [XT.cmpL, Int64.lt_irrefl, ifCond.holds]
theorem feqL {x y : Int64} (h : ¬ x = y) : ifCond.holds .eq (XT.cmpL x y) = false ∧ ifCond.holds .ne (XT.cmpL x y) = true := by
  by_cases h1 : y < x <;> simp [XT.cmpL, h, h1, ifCond.holds]
end Own
end Jvm.RoadKit
namespace Jvm.Pilot.@@N@@
open Jvm Jvm.ClassFile Sem Op Lib Jvm.Free Jvm.Stand Jvm.LawKit Jvm.RoadKit Bundle Jvm.Pilot.@@N@@.Jvm.D
abbrev Fm (Z : State) (h : Heap) (a : Addr) (v0 : Value) (v1 : Value) (v2 : Value) (v3 : Value) (v4 : Value) (v5 : Value) (v6 : Value) (v7 : Value) (v8 : Value) (v9 : Value) : Prop := Exa Z h a "com/example/quorumstone/quorumstone/check/Frames" ∧ Fld Z h a "com/example/quorumstone/quorumstone/check/Frames" "decided" "[J" v0 ∧ Fld Z h a "com/example/quorumstone/quorumstone/check/Frames" "taken" "[J" v1 ∧ Fld Z h a "com/example/quorumstone/quorumstone/check/Frames" "branchClass" "[I" v2 ∧ Fld Z h a "com/example/quorumstone/quorumstone/check/Frames" "first" "[I" v3 ∧ Fld Z h a "com/example/quorumstone/quorumstone/check/Frames" "step" "[I" v4 ∧ Fld Z h a "com/example/quorumstone/quorumstone/check/Frames" "next" "[I" v5 ∧ Fld Z h a "com/example/quorumstone/quorumstone/check/Frames" "last" "[I" v6 ∧ Fld Z h a "com/example/quorumstone/quorumstone/check/Frames" "classServers" "[J" v7 ∧ Fld Z h a "com/example/quorumstone/quorumstone/check/Frames" "allClasses" "J" v8 ∧ Fld Z h a "com/example/quorumstone/quorumstone/check/Frames" "depth" "I" v9
def FrS (Z : State) (h : Heap) (b : Addr) (z dep : Int32) (ud ut ub uf us un ul : List Value) : Prop :=
  ∃ (d t bc fi sp nx la : Addr) (kd kt kbc kfi ksp knx kla : ClassId) (v7 v8 : Value), Fm Z h b (.ref d) (.ref t) (.ref bc) (.ref fi) (.ref sp) (.ref nx) (.ref la) v7 v8 (.int dep) ∧ Arv Z h d kd .long z ud (.long (0 : Int64)) ∧ Arv Z h t kt .long z ut (.long (0 : Int64)) ∧ Arv Z h bc kbc .int z ub (.int (0 : Int32)) ∧ Arv Z h fi kfi .int z uf (.int (0 : Int32)) ∧ Arv Z h sp ksp .int z us (.int (0 : Int32)) ∧ Arv Z h nx knx .int z un (.int (0 : Int32)) ∧ Arv Z h la kla .int z ul (.int (0 : Int32)) ∧ b < d ∧ d < t ∧ t < bc ∧ bc < fi ∧ fi < sp ∧ sp < nx ∧ nx < la
def own_cnt (f b n la : Int32) : Int32 := if la < n then -1 else f + n * b
def own_nx (n la : Int32) : Int32 := if la < n then n else n + 1
theorem d4_0 : decode jdk_29_method_65_code 0 = .ok (.iload_n 0, 1) := by decide +kernel
theorem d4_1 : decode jdk_29_method_65_code 1 = .ok (.iload_n 1, 1) := by decide +kernel
theorem d4_2 : decode jdk_29_method_65_code 2 = .ok (.if_icmp .lt 7, 3) := by decide +kernel
theorem d4_5 : decode jdk_29_method_65_code 5 = .ok (.iload_n 0, 1) := by decide +kernel
theorem d4_6 : decode jdk_29_method_65_code 6 = .ok (.goto 4, 3) := by decide +kernel
theorem d4_9 : decode jdk_29_method_65_code 9 = .ok (.iload_n 1, 1) := by decide +kernel
theorem d4_10 : decode jdk_29_method_65_code 10 = .ok (.ireturn, 1) := by decide +kernel
theorem pd_0 : parseMethodDescriptor "(II)I" = some ⟨[.int, .int], some .int⟩ := by decide +kernel
theorem pd_1 : parseMethodDescriptor "([JI)[J" = some ⟨[(.array .long), .int], some (.array .long)⟩ := by decide +kernel
theorem pd_2 : parseMethodDescriptor "([II)[I" = some ⟨[(.array .int), .int], some (.array .int)⟩ := by decide +kernel
theorem pd_3 : parseMethodDescriptor "([J)V" = some ⟨[(.array .long)], none⟩ := by decide +kernel
theorem pd_4 : parseMethodDescriptor "(JJIIII)I" = some ⟨[.long, .long, .int, .int, .int, .int], some .int⟩ := by decide +kernel
theorem pd_5 : parseMethodDescriptor "(I)I" = some ⟨[.int], some .int⟩ := by decide +kernel
theorem pd_6 : parseMethodDescriptor "(IIII)I" = some ⟨[.int, .int, .int, .int], some .int⟩ := by decide +kernel
theorem ef_4 (m : MethodId) (p0 : Int32) (p1 : Int32) : entryFrame m #[(.int p0), (.int p1)] 2 = mkF m 0 #[.val (.int p0), .val (.int p1)] [] := by first | (simp [entryFrame, mkF, argsToLocals, Value.category]; done) | rfl
def f4 (p0 : Int32) (p1 : Int32) : Int32 :=
  if p0 < p1 then
    p1
  else
    p0
abbrev Q4 (Z : State) (p0 : Int32) (p1 : Int32) (h0 : Heap) (n0 : Nat) (v : Option Value) (h : Heap) (L : List Loc) : Prop := v = some (.int (f4 p0 p1)) ∧ Fr n0 L ∧ h = h0
set_option maxRecDepth 65536 in
set_option maxHeartbeats 40000000 in
theorem rm4 (l : Launch) (Z : State) (a0 : Array Value) (hw : ∀ d ∈ tables_1, d.before a0 Z = true) (ws : List Jvm.Cond) (p0 : Int32) (p1 : Int32) (h0 : Heap) (n0 : Nat) (Z0 : n0 ≤ h0.size) :
    MetFree l (⟨"java/lang/Math", "max", "(II)I"⟩ : MethodName) (head1 (Jvm.Cond.code (⟨"java/lang/Math", "max", "(II)I"⟩ : MethodName) jdk_29_method_65_code 2 (some .int) :: ws) ({ frames := 0, cells := 0, slots := 0, locals := 0 } : Room)) (fun a U => a = #[(.int p0), (.int p1)] ∧ Z.Warmed39 U.vm ∧ U.heap = h0) (fun _ _ _ _ _ => True) (fun _ U o U' => ∃ v L, o = .returned v ∧ Q4 Z p0 p1 h0 n0 v U'.heap L ∧ FrameEnd U o U' L 0 0) := by
  refine MetFree.of_bodySF (Jvm.Free.JP.mathPlain rfl (by decide +kernel)) hisR ?_
  intro p ev s m args below meth c s₁ Bd hml0 hP hK
  obtain ⟨rfl, hZ, hh⟩ := hP
  have hx := Bd.exec
  have hby := Bd.bytes
  have hml : c.maxLocals = 2 := hml0
  have hown : s.vm.findClass "java/lang/Math" = some m.cls := findClass_of_methodNamed Bd.named
  have hnm := (name_of_methodNamed Bd.named Bd.method).1
  have X0 : Stand p l ev ({ frames := 0, cells := 0, slots := 0, locals := 0 } : Room) s m #[(.int p0), (.int p1)] below meth c s₁ [] 0 0 := Stand.of_body Bd
  have eh0 : s₁.heap = h0 := by rw [← hh, Bd.state]; rfl
  have N0 := Fr.nil n0
  have Zs := Z0
  show Gol p ev below (FrameEnd s) (Q4 Z p0 p1 h0 n0) 0 0 (s₁.setTop (entryFrame m #[(.int p0), (.int p1)] 2))
  rw [ef_4]
  show GolF _ _ _ _ _ _ _ s₁ m 0 #[.val (.int p0), .val (.int p1)] []
  refine Gol.iloadN X0 hx hby d4_0 (pc' := 1) rfl rfl ?_
  refine Gol.iloadN X0 hx hby d4_1 (pc' := 2) rfl rfl ?_
  by_cases hc2_1 : p0 < p1
  · skip
    refine Gol.icmpYes X0 hx hby d4_2 (pc' := 9) (by decide) (tlt hc2_1).1 ?_
    refine Gol.iloadN X0 hx hby d4_9 (pc' := 10) rfl rfl ?_
    have hv2 : f4 p0 p1 = p1 := by
      unfold f4
      rw [if_pos hc2_1]
    exact Gol.retI X0 hx hby Bd.returns Bd.notSynchronized d4_10 eh0 ⟨congrArg (fun z => some (Value.int z)) (hv2.symm), N0, rfl⟩ (by decide) (by decide)
  · skip
    refine Gol.icmpNo X0 hx hby d4_2 (pc' := 5) rfl (flt hc2_1).1 ?_
    refine Gol.iloadN X0 hx hby d4_5 (pc' := 6) rfl rfl ?_
    refine Gol.goto X0 hx hby d4_6 (pc' := 10) (by decide) ?_
    have hv3 : f4 p0 p1 = p0 := by
      unfold f4
      rw [if_neg hc2_1]
    exact Gol.retI X0 hx hby Bd.returns Bd.notSynchronized d4_10 eh0 ⟨congrArg (fun z => some (Value.int z)) (hv3.symm), N0, rfl⟩ (by decide) (by decide)
theorem d6_0 : decode jdk_29_method_69_code 0 = .ok (.iload_n 0, 1) := by decide +kernel
theorem d6_1 : decode jdk_29_method_69_code 1 = .ok (.iload_n 1, 1) := by decide +kernel
theorem d6_2 : decode jdk_29_method_69_code 2 = .ok (.if_icmp .gt 7, 3) := by decide +kernel
theorem d6_5 : decode jdk_29_method_69_code 5 = .ok (.iload_n 0, 1) := by decide +kernel
theorem d6_6 : decode jdk_29_method_69_code 6 = .ok (.goto 4, 3) := by decide +kernel
theorem d6_9 : decode jdk_29_method_69_code 9 = .ok (.iload_n 1, 1) := by decide +kernel
theorem d6_10 : decode jdk_29_method_69_code 10 = .ok (.ireturn, 1) := by decide +kernel
theorem ef_6 (m : MethodId) (p0 : Int32) (p1 : Int32) : entryFrame m #[(.int p0), (.int p1)] 2 = mkF m 0 #[.val (.int p0), .val (.int p1)] [] := by first | (simp [entryFrame, mkF, argsToLocals, Value.category]; done) | rfl
def f6 (p0 : Int32) (p1 : Int32) : Int32 :=
  if p1 < p0 then
    p1
  else
    p0
abbrev Q6 (Z : State) (p0 : Int32) (p1 : Int32) (h0 : Heap) (n0 : Nat) (v : Option Value) (h : Heap) (L : List Loc) : Prop := v = some (.int (f6 p0 p1)) ∧ Fr n0 L ∧ h = h0
set_option maxRecDepth 65536 in
set_option maxHeartbeats 40000000 in
theorem rm6 (l : Launch) (Z : State) (a0 : Array Value) (hw : ∀ d ∈ tables_1, d.before a0 Z = true) (ws : List Jvm.Cond) (p0 : Int32) (p1 : Int32) (h0 : Heap) (n0 : Nat) (Z0 : n0 ≤ h0.size) :
    MetFree l (⟨"java/lang/Math", "min", "(II)I"⟩ : MethodName) (head1 (Jvm.Cond.code (⟨"java/lang/Math", "min", "(II)I"⟩ : MethodName) jdk_29_method_69_code 2 (some .int) :: ws) ({ frames := 0, cells := 0, slots := 0, locals := 0 } : Room)) (fun a U => a = #[(.int p0), (.int p1)] ∧ Z.Warmed39 U.vm ∧ U.heap = h0) (fun _ _ _ _ _ => True) (fun _ U o U' => ∃ v L, o = .returned v ∧ Q6 Z p0 p1 h0 n0 v U'.heap L ∧ FrameEnd U o U' L 0 0) := by
  refine MetFree.of_bodySF (Jvm.Free.JP.mathPlain rfl (by decide +kernel)) hisR ?_
  intro p ev s m args below meth c s₁ Bd hml0 hP hK
  obtain ⟨rfl, hZ, hh⟩ := hP
  have hx := Bd.exec
  have hby := Bd.bytes
  have hml : c.maxLocals = 2 := hml0
  have hown : s.vm.findClass "java/lang/Math" = some m.cls := findClass_of_methodNamed Bd.named
  have hnm := (name_of_methodNamed Bd.named Bd.method).1
  have X0 : Stand p l ev ({ frames := 0, cells := 0, slots := 0, locals := 0 } : Room) s m #[(.int p0), (.int p1)] below meth c s₁ [] 0 0 := Stand.of_body Bd
  have eh0 : s₁.heap = h0 := by rw [← hh, Bd.state]; rfl
  have N0 := Fr.nil n0
  have Zs := Z0
  show Gol p ev below (FrameEnd s) (Q6 Z p0 p1 h0 n0) 0 0 (s₁.setTop (entryFrame m #[(.int p0), (.int p1)] 2))
  rw [ef_6]
  show GolF _ _ _ _ _ _ _ s₁ m 0 #[.val (.int p0), .val (.int p1)] []
  refine Gol.iloadN X0 hx hby d6_0 (pc' := 1) rfl rfl ?_
  refine Gol.iloadN X0 hx hby d6_1 (pc' := 2) rfl rfl ?_
  by_cases hc2_1 : p1 < p0
  · skip
    refine Gol.icmpYes X0 hx hby d6_2 (pc' := 9) (by decide) (tlt hc2_1).2.2.1 ?_
    refine Gol.iloadN X0 hx hby d6_9 (pc' := 10) rfl rfl ?_
    have hv2 : f6 p0 p1 = p1 := by
      unfold f6
      rw [if_pos hc2_1]
    exact Gol.retI X0 hx hby Bd.returns Bd.notSynchronized d6_10 eh0 ⟨congrArg (fun z => some (Value.int z)) (hv2.symm), N0, rfl⟩ (by decide) (by decide)
  · skip
    refine Gol.icmpNo X0 hx hby d6_2 (pc' := 5) rfl (flt hc2_1).2.2.1 ?_
    refine Gol.iloadN X0 hx hby d6_5 (pc' := 6) rfl rfl ?_
    refine Gol.goto X0 hx hby d6_6 (pc' := 10) (by decide) ?_
    have hv3 : f6 p0 p1 = p0 := by
      unfold f6
      rw [if_neg hc2_1]
    exact Gol.retI X0 hx hby Bd.returns Bd.notSynchronized d6_10 eh0 ⟨congrArg (fun z => some (Value.int z)) (hv3.symm), N0, rfl⟩ (by decide) (by decide)
theorem d9_0 : decode method_2_code 0 = .ok (.iload_n 3, 1) := by decide +kernel
theorem d9_1 : decode method_2_code 1 = .ok (.iload_n 2, 1) := by decide +kernel
theorem d9_2 : decode method_2_code 2 = .ok (.if_icmp .ge 9, 3) := by decide +kernel
theorem d9_5 : decode method_2_code 5 = .ok (.iload_n 0, 1) := by decide +kernel
theorem d9_6 : decode method_2_code 6 = .ok (.iload_n 3, 1) := by decide +kernel
theorem d9_7 : decode method_2_code 7 = .ok (.iload_n 1, 1) := by decide +kernel
theorem d9_8 : decode method_2_code 8 = .ok (.imul, 1) := by decide +kernel
theorem d9_9 : decode method_2_code 9 = .ok (.iadd, 1) := by decide +kernel
theorem d9_10 : decode method_2_code 10 = .ok (.ireturn, 1) := by decide +kernel
theorem d9_11 : decode method_2_code 11 = .ok (.iconst (-1), 1) := by decide +kernel
theorem d9_12 : decode method_2_code 12 = .ok (.ireturn, 1) := by decide +kernel
theorem pn_9 : plainName "com/example/quorumstone/quorumstone/check/FramesNextCountPinLaw" = true := by first | (simp [plainName, overriddenIn]; done) | decide +kernel
theorem ef_9 (m : MethodId) (p0 : Int32) (p1 : Int32) (p2 : Int32) (p3 : Int32) : entryFrame m #[(.int p0), (.int p1), (.int p2), (.int p3)] 4 = mkF m 0 #[.val (.int p0), .val (.int p1), .val (.int p2), .val (.int p3)] [] := by first | (simp [entryFrame, mkF, argsToLocals, Value.category]; done) | rfl
def f9 (p0 : Int32) (p1 : Int32) (p2 : Int32) (p3 : Int32) : Int32 :=
  if p3 < p2 then
    (p0 + (p3 * p1))
  else
    (-1 : Int32)
abbrev Q9 (Z : State) (p0 : Int32) (p1 : Int32) (p2 : Int32) (p3 : Int32) (h0 : Heap) (n0 : Nat) (v : Option Value) (h : Heap) (L : List Loc) : Prop := v = some (.int (f9 p0 p1 p2 p3)) ∧ Fr n0 L ∧ h = h0
set_option maxRecDepth 65536 in
set_option maxHeartbeats 40000000 in
theorem rm9 (l : Launch) (Z : State) (a0 : Array Value) (hw : ∀ d ∈ tables_1, d.before a0 Z = true) (ws : List Jvm.Cond) (p0 : Int32) (p1 : Int32) (p2 : Int32) (p3 : Int32) (h0 : Heap) (n0 : Nat) (Z0 : n0 ≤ h0.size) :
    MetFree l (⟨"com/example/quorumstone/quorumstone/check/FramesNextCountPinLaw", "ref", "(IIII)I"⟩ : MethodName) (head1 (Jvm.Cond.code (⟨"com/example/quorumstone/quorumstone/check/FramesNextCountPinLaw", "ref", "(IIII)I"⟩ : MethodName) method_2_code 4 (some .int) :: ws) ({ frames := 0, cells := 0, slots := 0, locals := 0 } : Room)) (fun a U => a = #[(.int p0), (.int p1), (.int p2), (.int p3)] ∧ Z.Warmed39 U.vm ∧ U.heap = h0) (fun _ _ _ _ _ => True) (fun _ U o U' => ∃ v L, o = .returned v ∧ Q9 Z p0 p1 p2 p3 h0 n0 v U'.heap L ∧ FrameEnd U o U' L 0 0) := by
  refine MetFree.of_bodySF (plainFor_of_name pn_9) hisR ?_
  intro p ev s m args below meth c s₁ Bd hml0 hP hK
  obtain ⟨rfl, hZ, hh⟩ := hP
  have hx := Bd.exec
  have hby := Bd.bytes
  have hml : c.maxLocals = 4 := hml0
  have hown : s.vm.findClass "com/example/quorumstone/quorumstone/check/FramesNextCountPinLaw" = some m.cls := findClass_of_methodNamed Bd.named
  have hnm := (name_of_methodNamed Bd.named Bd.method).1
  have X0 : Stand p l ev ({ frames := 0, cells := 0, slots := 0, locals := 0 } : Room) s m #[(.int p0), (.int p1), (.int p2), (.int p3)] below meth c s₁ [] 0 0 := Stand.of_body Bd
  have eh0 : s₁.heap = h0 := by rw [← hh, Bd.state]; rfl
  have N0 := Fr.nil n0
  have Zs := Z0
  show Gol p ev below (FrameEnd s) (Q9 Z p0 p1 p2 p3 h0 n0) 0 0 (s₁.setTop (entryFrame m #[(.int p0), (.int p1), (.int p2), (.int p3)] 4))
  rw [ef_9]
  show GolF _ _ _ _ _ _ _ s₁ m 0 #[.val (.int p0), .val (.int p1), .val (.int p2), .val (.int p3)] []
  refine Gol.iloadN X0 hx hby d9_0 (pc' := 1) rfl rfl ?_
  refine Gol.iloadN X0 hx hby d9_1 (pc' := 2) rfl rfl ?_
  by_cases hc2_1 : p3 < p2
  · skip
    refine Gol.icmpNo X0 hx hby d9_2 (pc' := 5) rfl (tlt hc2_1).2.1 ?_
    refine Gol.iloadN X0 hx hby d9_5 (pc' := 6) rfl rfl ?_
    refine Gol.iloadN X0 hx hby d9_6 (pc' := 7) rfl rfl ?_
    refine Gol.iloadN X0 hx hby d9_7 (pc' := 8) rfl rfl ?_
    refine Gol.imul X0 hx hby d9_8 (pc' := 9) rfl rfl ?_
    refine Gol.iadd X0 hx hby d9_9 (pc' := 10) rfl rfl ?_
    have hv2 : f9 p0 p1 p2 p3 = (p0 + (p3 * p1)) := by
      unfold f9
      rw [if_pos hc2_1]
    exact Gol.retI X0 hx hby Bd.returns Bd.notSynchronized d9_10 eh0 ⟨congrArg (fun z => some (Value.int z)) (hv2.symm), N0, rfl⟩ (by decide) (by decide)
  · skip
    refine Gol.icmpYes X0 hx hby d9_2 (pc' := 11) (by decide) (flt hc2_1).2.1 ?_
    refine Gol.iconst X0 hx hby d9_11 (pc' := 12) rfl (z := (-1 : Int32)) rfl ?_
    have hv3 : f9 p0 p1 p2 p3 = (-1 : Int32) := by
      unfold f9
      rw [if_neg hc2_1]
    exact Gol.retI X0 hx hby Bd.returns Bd.notSynchronized d9_12 eh0 ⟨congrArg (fun z => some (Value.int z)) (hv3.symm), N0, rfl⟩ (by decide) (by decide)
theorem d5_0 : decode jdk_65_method_124_code 0 = .ok (.iload_n 1, 1) := by decide +kernel
theorem d5_1 : decode jdk_65_method_124_code 1 = .ok (.aload_n 0, 1) := by decide +kernel
theorem d5_2 : decode jdk_65_method_124_code 2 = .ok (.arraylength, 1) := by decide +kernel
theorem d5_3 : decode jdk_65_method_124_code 3 = .ok (.if_icmp .ne 11, 3) := by decide +kernel
theorem d5_14 : decode jdk_65_method_124_code 14 = .ok (.iload_n 1, 1) := by decide +kernel
theorem d5_15 : decode jdk_65_method_124_code 15 = .ok (.newarray .long, 2) := by decide +kernel
theorem d5_17 : decode jdk_65_method_124_code 17 = .ok (.astore_n 2, 1) := by decide +kernel
theorem d5_18 : decode jdk_65_method_124_code 18 = .ok (.aload_n 0, 1) := by decide +kernel
theorem d5_19 : decode jdk_65_method_124_code 19 = .ok (.iconst 0, 1) := by decide +kernel
theorem d5_20 : decode jdk_65_method_124_code 20 = .ok (.aload_n 2, 1) := by decide +kernel
theorem d5_21 : decode jdk_65_method_124_code 21 = .ok (.iconst 0, 1) := by decide +kernel
theorem d5_22 : decode jdk_65_method_124_code 22 = .ok (.aload_n 0, 1) := by decide +kernel
theorem d5_23 : decode jdk_65_method_124_code 23 = .ok (.arraylength, 1) := by decide +kernel
theorem d5_24 : decode jdk_65_method_124_code 24 = .ok (.iload_n 1, 1) := by decide +kernel
theorem d5_25 : decode jdk_65_method_124_code 25 = .ok (.invokestatic 304, 3) := by decide +kernel
theorem d5_28 : decode jdk_65_method_124_code 28 = .ok (.invokestatic 150, 3) := by decide +kernel
theorem d5_31 : decode jdk_65_method_124_code 31 = .ok (.aload_n 2, 1) := by decide +kernel
theorem d5_32 : decode jdk_65_method_124_code 32 = .ok (.areturn, 1) := by decide +kernel
theorem pn_5 : plainName "java/util/Arrays" = true := by first | (simp [plainName, overriddenIn]; done) | decide +kernel
theorem ef_5 (m : MethodId) (r0 : Addr) (p1 : Int32) : entryFrame m #[(.ref r0), (.int p1)] 3 = mkF m 0 #[.val (.ref r0), .val (.int p1), .unset] [] := by first | (simp [entryFrame, mkF, argsToLocals, Value.category]; done) | rfl
abbrev Q5 (Z : State) (r0 : Addr) (p1 : Int32) (kr : ClassId) (h0 : Heap) (n0 : Nat) (v : Option Value) (h : Heap) (L : List Loc) : Prop := ∃ (b : Addr) (k : ClassId), v = some (.ref b) ∧ Fr n0 L ∧ Keep h0 h [] ∧ h0.size ≤ b ∧ Arv Z h b k .long (64 : Int32) [(.long (0 : Int64)), (.long (0 : Int64))] (.long (0 : Int64))
set_option maxRecDepth 65536 in
set_option maxHeartbeats 40000000 in
theorem rm5 (l : Launch) (Z : State) (a0 : Array Value) (hw : ∀ d ∈ tables_1, d.before a0 Z = true) (ws : List Jvm.Cond) (r0 : Addr) (p1 : Int32) (kr : ClassId) (h0 : Heap) (n0 : Nat) (Z0 : n0 ≤ h0.size) (hp : p1 = (64 : Int32)) (V_r0 : Arv Z h0 r0 kr .long (0 : Int32) [] (.long (0 : Int64))) :
    MetFree l (⟨"java/util/Arrays", "copyOf", "([JI)[J"⟩ : MethodName) (head1 (Jvm.Cond.code (⟨"java/util/Arrays", "copyOf", "([JI)[J"⟩ : MethodName) jdk_65_method_124_code 3 (some (.array .long)) :: ws) ({ frames := 1, cells := 1, slots := 64, locals := 18 } : Room)) (fun a U => a = #[(.ref r0), (.int p1)] ∧ Z.Warmed39 U.vm ∧ U.heap = h0) (fun _ _ _ _ _ => True) (fun _ U o U' => ∃ v L, o = .returned v ∧ Q5 Z r0 p1 kr h0 n0 v U'.heap L ∧ FrameEnd U o U' L 1 64) := by
  refine MetFree.of_bodySF (plainFor_of_name pn_5) hisR ?_
  intro p ev s m args below meth c s₁ Bd hml0 hP hK
  obtain ⟨rfl, hZ, hh⟩ := hP
  have hx := Bd.exec
  have hby := Bd.bytes
  have hml : c.maxLocals = 3 := hml0
  have hown : s.vm.findClass "java/util/Arrays" = some m.cls := findClass_of_methodNamed Bd.named
  have hnm := (name_of_methodNamed Bd.named Bd.method).1
  have X0 : Stand p l ev ({ frames := 1, cells := 1, slots := 64, locals := 18 } : Room) s m #[(.ref r0), (.int p1)] below meth c s₁ [] 0 0 := Stand.of_body Bd
  have eh0 : s₁.heap = h0 := by rw [← hh, Bd.state]; rfl
  have N0 := Fr.nil n0
  have Zs := Z0
  show Gol p ev below (FrameEnd s) (Q5 Z r0 p1 kr h0 n0) 1 64 (s₁.setTop (entryFrame m #[(.ref r0), (.int p1)] 3))
  rw [ef_5]
  subst hp
  have K := Keep.refl h0 []
  show GolF _ _ _ _ _ _ _ s₁ m 0 #[.val (.ref r0), .val (.int (64 : Int32)), .unset] []
  refine Gol.iloadN X0 hx hby d5_0 (pc' := 1) rfl rfl ?_
  refine Gol.aloadN X0 hx hby d5_1 (pc' := 2) rfl rfl rfl ?_
  refine Gol.alen X0 hx hby hZ eh0 V_r0 d5_2 (pc' := 3) rfl ?_
  refine Gol.icmpYes X0 hx hby d5_3 (pc' := 14) (by decide) (feq (by decide : ¬ ((64 : Int32) = (0 : Int32)))).2 ?_
  refine Gol.iloadN X0 hx hby d5_14 (pc' := 15) rfl rfl ?_
  refine Gol.newarr X0 hx hby hZ (hw _ (List.mem_of_getElem? (i := 3) rfl)) eh0 64 d5_15 (pc' := 17) rfl (by decide) (by decide) (by decide) (by decide) (by decide) ?_
  intro T1 h1 k1 b1 g1 X1 e1 E1 A1
  have lo_r0_b1 : r0 < b1 := Nat.lt_of_lt_of_le V_r0.lt (Nat.le_of_eq g1.symm)
  have ne_r0_b1 : r0 ≠ b1 := Nat.ne_of_lt lo_r0_b1
  have g_b1 : n0 ≤ b1 := Nat.le_trans Zs (Nat.le_of_eq g1.symm)
  have sz_b1 : h0.size ≤ b1 := Nat.le_trans K.1 (Nat.le_of_eq g1.symm)
  have V_r0 := V_r0.ext E1
  have K := K.ext E1
  have Zs := Nat.le_trans Zs E1.1
  have V_b1 : Arv Z h1 b1 k1 .long (64 : Int32) [(.long (0 : Int64)), (.long (0 : Int64))] (.long (0 : Int64)) := A1.pad (pad_rep [] (.long (0 : Int64)) 2)
  refine Gol.astoreN X1 hx hby d5_17 (pc' := 18) rfl rfl (l' := #[.val (.ref r0), .val (.int (64 : Int32)), .val (.ref b1)]) rfl ?_
  refine Gol.aloadN X1 hx hby d5_18 (pc' := 19) rfl rfl rfl ?_
  refine Gol.iconst X1 hx hby d5_19 (pc' := 20) rfl (z := (0 : Int32)) rfl ?_
  refine Gol.aloadN X1 hx hby d5_20 (pc' := 21) rfl rfl rfl ?_
  refine Gol.iconst X1 hx hby d5_21 (pc' := 22) rfl (z := (0 : Int32)) rfl ?_
  refine Gol.aloadN X1 hx hby d5_22 (pc' := 23) rfl rfl rfl ?_
  refine Gol.alen X1 hx hby hZ e1 V_r0 d5_23 (pc' := 24) rfl ?_
  refine Gol.iloadN X1 hx hby d5_24 (pc' := 25) rfl rfl ?_
  refine Gol.callS X1 hx hby hZ hown 4 [(.int (0 : Int32)), (.int (64 : Int32))] (hw _ (List.mem_of_getElem? (i := 44) rfl)) (hw _ (List.mem_of_getElem? (i := 45) rfl)) (hw _ (List.mem_of_getElem? (i := 38) rfl)) (hw _ (List.mem_of_getElem? (i := 46) rfl)) (by decide) (rm6 l Z a0 hw [] (0 : Int32) (64 : Int32)  h1 n0 Zs ) (by decide) (by decide) e1 (by rw [hml]; rfl) (rest := [(.int (0 : Int32)), (.ref b1), (.int (0 : Int32)), (.ref r0)]) (Nat.le_of_eq rfl) (by decide) (by decide) (lenOf pd_0 rfl) rfl d5_25 (pc' := 28) rfl ?_
  intro T2 v2 L2 X2 hQ2
  obtain ⟨rfl, Nq2, eq2⟩ := hQ2
  have N2 := Fr.app N0 Nq2
  show GolF _ _ _ _ _ _ _ T2 m 28 #[.val (.ref r0), .val (.int (64 : Int32)), .val (.ref b1)] [(.int (f6 (0 : Int32) (64 : Int32) )), (.int (0 : Int32)), (.ref b1), (.int (0 : Int32)), (.ref r0)]
  show GolF _ _ _ _ _ _ _ T2 m 28 #[.val (.ref r0), .val (.int (64 : Int32)), .val (.ref b1)] [(.int (0 : Int32)), (.int (0 : Int32)), (.ref b1), (.int (0 : Int32)), (.ref r0)]
  obtain ⟨T3, h3, L3, X3, e3, N3, K3, V_b1', st3⟩ := cpA X2 hx hZ hown (hw _ (List.mem_of_getElem? (i := 47) rfl)) (hw _ (List.mem_of_getElem? (i := 50) rfl)) (hw _ (List.mem_of_getElem? (i := 48) rfl)) (hw _ (List.mem_of_getElem? (i := 49) rfl)) eq2 V_r0 V_b1 (us := []) (Or.inl ⟨rfl, rfl⟩) (by decide) (by decide) (by decide) (by decide) (by decide) rfl (by decide) N2 g_b1 (g := (mkF m 28 #[.val (.ref r0), .val (.int (64 : Int32)), .val (.ref b1)] [(.int (0 : Int32)), (.int (0 : Int32)), (.ref b1), (.int (0 : Int32)), (.ref r0)])) rfl (by rw [hml]; rfl) (rest := []) rfl (hb hby d5_28) (by decide) (W := 0) (by show 2 * 0 + _ ≤ _; exact Nat.le_of_eq rfl) (by decide)
  refine Gol.step st3 ?_
  have V_r0 := V_r0.keep K3 (ninS ne_r0_b1 nin0)
  have K := K.trans K3 (allS (Or.inr sz_b1) all0)
  have Zs := Nat.le_trans Zs K3.1
  have V_b1 : Arv Z h3 b1 k1 .long (64 : Int32) [(.long (0 : Int64)), (.long (0 : Int64))] (.long (0 : Int64)) := V_b1'
  show GolF _ _ _ _ _ _ _ T3 m 31 #[.val (.ref r0), .val (.int (64 : Int32)), .val (.ref b1)] []
  refine Gol.aloadN X3 hx hby d5_31 (pc' := 32) rfl rfl rfl ?_
  exact Gol.retA X3 hx hby Bd.returns rfl rfl Bd.notSynchronized d5_32 e3 ⟨b1, k1, rfl, N3, K, sz_b1, V_b1⟩ (by decide) (by decide)
theorem d7_0 : decode jdk_65_method_123_code 0 = .ok (.iload_n 1, 1) := by decide +kernel
theorem d7_1 : decode jdk_65_method_123_code 1 = .ok (.aload_n 0, 1) := by decide +kernel
theorem d7_2 : decode jdk_65_method_123_code 2 = .ok (.arraylength, 1) := by decide +kernel
theorem d7_3 : decode jdk_65_method_123_code 3 = .ok (.if_icmp .ne 11, 3) := by decide +kernel
theorem d7_14 : decode jdk_65_method_123_code 14 = .ok (.iload_n 1, 1) := by decide +kernel
theorem d7_15 : decode jdk_65_method_123_code 15 = .ok (.newarray .int, 2) := by decide +kernel
theorem d7_17 : decode jdk_65_method_123_code 17 = .ok (.astore_n 2, 1) := by decide +kernel
theorem d7_18 : decode jdk_65_method_123_code 18 = .ok (.aload_n 0, 1) := by decide +kernel
theorem d7_19 : decode jdk_65_method_123_code 19 = .ok (.iconst 0, 1) := by decide +kernel
theorem d7_20 : decode jdk_65_method_123_code 20 = .ok (.aload_n 2, 1) := by decide +kernel
theorem d7_21 : decode jdk_65_method_123_code 21 = .ok (.iconst 0, 1) := by decide +kernel
theorem d7_22 : decode jdk_65_method_123_code 22 = .ok (.aload_n 0, 1) := by decide +kernel
theorem d7_23 : decode jdk_65_method_123_code 23 = .ok (.arraylength, 1) := by decide +kernel
theorem d7_24 : decode jdk_65_method_123_code 24 = .ok (.iload_n 1, 1) := by decide +kernel
theorem d7_25 : decode jdk_65_method_123_code 25 = .ok (.invokestatic 304, 3) := by decide +kernel
theorem d7_28 : decode jdk_65_method_123_code 28 = .ok (.invokestatic 150, 3) := by decide +kernel
theorem d7_31 : decode jdk_65_method_123_code 31 = .ok (.aload_n 2, 1) := by decide +kernel
theorem d7_32 : decode jdk_65_method_123_code 32 = .ok (.areturn, 1) := by decide +kernel
theorem pn_7 : plainName "java/util/Arrays" = true := by first | (simp [plainName, overriddenIn]; done) | decide +kernel
theorem ef_7 (m : MethodId) (r0 : Addr) (p1 : Int32) : entryFrame m #[(.ref r0), (.int p1)] 3 = mkF m 0 #[.val (.ref r0), .val (.int p1), .unset] [] := by first | (simp [entryFrame, mkF, argsToLocals, Value.category]; done) | rfl
abbrev Q7 (Z : State) (r0 : Addr) (p1 : Int32) (kr : ClassId) (h0 : Heap) (n0 : Nat) (v : Option Value) (h : Heap) (L : List Loc) : Prop := ∃ (b : Addr) (k : ClassId), v = some (.ref b) ∧ Fr n0 L ∧ Keep h0 h [] ∧ h0.size ≤ b ∧ Arv Z h b k .int (64 : Int32) [(.int (0 : Int32)), (.int (0 : Int32))] (.int (0 : Int32))
set_option maxRecDepth 65536 in
set_option maxHeartbeats 40000000 in
theorem rm7 (l : Launch) (Z : State) (a0 : Array Value) (hw : ∀ d ∈ tables_1, d.before a0 Z = true) (ws : List Jvm.Cond) (r0 : Addr) (p1 : Int32) (kr : ClassId) (h0 : Heap) (n0 : Nat) (Z0 : n0 ≤ h0.size) (hp : p1 = (64 : Int32)) (V_r0 : Arv Z h0 r0 kr .int (0 : Int32) [] (.int (0 : Int32))) :
    MetFree l (⟨"java/util/Arrays", "copyOf", "([II)[I"⟩ : MethodName) (head1 (Jvm.Cond.code (⟨"java/util/Arrays", "copyOf", "([II)[I"⟩ : MethodName) jdk_65_method_123_code 3 (some (.array .int)) :: ws) ({ frames := 1, cells := 1, slots := 64, locals := 18 } : Room)) (fun a U => a = #[(.ref r0), (.int p1)] ∧ Z.Warmed39 U.vm ∧ U.heap = h0) (fun _ _ _ _ _ => True) (fun _ U o U' => ∃ v L, o = .returned v ∧ Q7 Z r0 p1 kr h0 n0 v U'.heap L ∧ FrameEnd U o U' L 1 64) := by
  refine MetFree.of_bodySF (plainFor_of_name pn_7) hisR ?_
  intro p ev s m args below meth c s₁ Bd hml0 hP hK
  obtain ⟨rfl, hZ, hh⟩ := hP
  have hx := Bd.exec
  have hby := Bd.bytes
  have hml : c.maxLocals = 3 := hml0
  have hown : s.vm.findClass "java/util/Arrays" = some m.cls := findClass_of_methodNamed Bd.named
  have hnm := (name_of_methodNamed Bd.named Bd.method).1
  have X0 : Stand p l ev ({ frames := 1, cells := 1, slots := 64, locals := 18 } : Room) s m #[(.ref r0), (.int p1)] below meth c s₁ [] 0 0 := Stand.of_body Bd
  have eh0 : s₁.heap = h0 := by rw [← hh, Bd.state]; rfl
  have N0 := Fr.nil n0
  have Zs := Z0
  show Gol p ev below (FrameEnd s) (Q7 Z r0 p1 kr h0 n0) 1 64 (s₁.setTop (entryFrame m #[(.ref r0), (.int p1)] 3))
  rw [ef_7]
  subst hp
  have K := Keep.refl h0 []
  show GolF _ _ _ _ _ _ _ s₁ m 0 #[.val (.ref r0), .val (.int (64 : Int32)), .unset] []
  refine Gol.iloadN X0 hx hby d7_0 (pc' := 1) rfl rfl ?_
  refine Gol.aloadN X0 hx hby d7_1 (pc' := 2) rfl rfl rfl ?_
  refine Gol.alen X0 hx hby hZ eh0 V_r0 d7_2 (pc' := 3) rfl ?_
  refine Gol.icmpYes X0 hx hby d7_3 (pc' := 14) (by decide) (feq (by decide : ¬ ((64 : Int32) = (0 : Int32)))).2 ?_
  refine Gol.iloadN X0 hx hby d7_14 (pc' := 15) rfl rfl ?_
  refine Gol.newarr X0 hx hby hZ (hw _ (List.mem_of_getElem? (i := 14) rfl)) eh0 64 d7_15 (pc' := 17) rfl (by decide) (by decide) (by decide) (by decide) (by decide) ?_
  intro T1 h1 k1 b1 g1 X1 e1 E1 A1
  have lo_r0_b1 : r0 < b1 := Nat.lt_of_lt_of_le V_r0.lt (Nat.le_of_eq g1.symm)
  have ne_r0_b1 : r0 ≠ b1 := Nat.ne_of_lt lo_r0_b1
  have g_b1 : n0 ≤ b1 := Nat.le_trans Zs (Nat.le_of_eq g1.symm)
  have sz_b1 : h0.size ≤ b1 := Nat.le_trans K.1 (Nat.le_of_eq g1.symm)
  have V_r0 := V_r0.ext E1
  have K := K.ext E1
  have Zs := Nat.le_trans Zs E1.1
  have V_b1 : Arv Z h1 b1 k1 .int (64 : Int32) [(.int (0 : Int32)), (.int (0 : Int32))] (.int (0 : Int32)) := A1.pad (pad_rep [] (.int (0 : Int32)) 2)
  refine Gol.astoreN X1 hx hby d7_17 (pc' := 18) rfl rfl (l' := #[.val (.ref r0), .val (.int (64 : Int32)), .val (.ref b1)]) rfl ?_
  refine Gol.aloadN X1 hx hby d7_18 (pc' := 19) rfl rfl rfl ?_
  refine Gol.iconst X1 hx hby d7_19 (pc' := 20) rfl (z := (0 : Int32)) rfl ?_
  refine Gol.aloadN X1 hx hby d7_20 (pc' := 21) rfl rfl rfl ?_
  refine Gol.iconst X1 hx hby d7_21 (pc' := 22) rfl (z := (0 : Int32)) rfl ?_
  refine Gol.aloadN X1 hx hby d7_22 (pc' := 23) rfl rfl rfl ?_
  refine Gol.alen X1 hx hby hZ e1 V_r0 d7_23 (pc' := 24) rfl ?_
  refine Gol.iloadN X1 hx hby d7_24 (pc' := 25) rfl rfl ?_
  refine Gol.callS X1 hx hby hZ hown 4 [(.int (0 : Int32)), (.int (64 : Int32))] (hw _ (List.mem_of_getElem? (i := 44) rfl)) (hw _ (List.mem_of_getElem? (i := 45) rfl)) (hw _ (List.mem_of_getElem? (i := 38) rfl)) (hw _ (List.mem_of_getElem? (i := 46) rfl)) (by decide) (rm6 l Z a0 hw [] (0 : Int32) (64 : Int32)  h1 n0 Zs ) (by decide) (by decide) e1 (by rw [hml]; rfl) (rest := [(.int (0 : Int32)), (.ref b1), (.int (0 : Int32)), (.ref r0)]) (Nat.le_of_eq rfl) (by decide) (by decide) (lenOf pd_0 rfl) rfl d7_25 (pc' := 28) rfl ?_
  intro T2 v2 L2 X2 hQ2
  obtain ⟨rfl, Nq2, eq2⟩ := hQ2
  have N2 := Fr.app N0 Nq2
  show GolF _ _ _ _ _ _ _ T2 m 28 #[.val (.ref r0), .val (.int (64 : Int32)), .val (.ref b1)] [(.int (f6 (0 : Int32) (64 : Int32) )), (.int (0 : Int32)), (.ref b1), (.int (0 : Int32)), (.ref r0)]
  show GolF _ _ _ _ _ _ _ T2 m 28 #[.val (.ref r0), .val (.int (64 : Int32)), .val (.ref b1)] [(.int (0 : Int32)), (.int (0 : Int32)), (.ref b1), (.int (0 : Int32)), (.ref r0)]
  obtain ⟨T3, h3, L3, X3, e3, N3, K3, V_b1', st3⟩ := cpA X2 hx hZ hown (hw _ (List.mem_of_getElem? (i := 47) rfl)) (hw _ (List.mem_of_getElem? (i := 50) rfl)) (hw _ (List.mem_of_getElem? (i := 48) rfl)) (hw _ (List.mem_of_getElem? (i := 49) rfl)) eq2 V_r0 V_b1 (us := []) (Or.inl ⟨rfl, rfl⟩) (by decide) (by decide) (by decide) (by decide) (by decide) rfl (by decide) N2 g_b1 (g := (mkF m 28 #[.val (.ref r0), .val (.int (64 : Int32)), .val (.ref b1)] [(.int (0 : Int32)), (.int (0 : Int32)), (.ref b1), (.int (0 : Int32)), (.ref r0)])) rfl (by rw [hml]; rfl) (rest := []) rfl (hb hby d7_28) (by decide) (W := 0) (by show 2 * 0 + _ ≤ _; exact Nat.le_of_eq rfl) (by decide)
  refine Gol.step st3 ?_
  have V_r0 := V_r0.keep K3 (ninS ne_r0_b1 nin0)
  have K := K.trans K3 (allS (Or.inr sz_b1) all0)
  have Zs := Nat.le_trans Zs K3.1
  have V_b1 : Arv Z h3 b1 k1 .int (64 : Int32) [(.int (0 : Int32)), (.int (0 : Int32))] (.int (0 : Int32)) := V_b1'
  show GolF _ _ _ _ _ _ _ T3 m 31 #[.val (.ref r0), .val (.int (64 : Int32)), .val (.ref b1)] []
  refine Gol.aloadN X3 hx hby d7_31 (pc' := 32) rfl rfl rfl ?_
  exact Gol.retA X3 hx hby Bd.returns rfl rfl Bd.notSynchronized d7_32 e3 ⟨b1, k1, rfl, N3, K, sz_b1, V_b1⟩ (by decide) (by decide)
theorem d1_0 : decode prog_5_method_1_code 0 = .ok (.aload_n 0, 1) := by decide +kernel
theorem d1_1 : decode prog_5_method_1_code 1 = .ok (.invokespecial 1, 3) := by decide +kernel
theorem d1_4 : decode prog_5_method_1_code 4 = .ok (.aload_n 0, 1) := by decide +kernel
theorem d1_5 : decode prog_5_method_1_code 5 = .ok (.iconst 0, 1) := by decide +kernel
theorem d1_6 : decode prog_5_method_1_code 6 = .ok (.newarray .long, 2) := by decide +kernel
theorem d1_8 : decode prog_5_method_1_code 8 = .ok (.putfield 7, 3) := by decide +kernel
theorem d1_11 : decode prog_5_method_1_code 11 = .ok (.aload_n 0, 1) := by decide +kernel
theorem d1_12 : decode prog_5_method_1_code 12 = .ok (.iconst 0, 1) := by decide +kernel
theorem d1_13 : decode prog_5_method_1_code 13 = .ok (.newarray .long, 2) := by decide +kernel
theorem d1_15 : decode prog_5_method_1_code 15 = .ok (.putfield 13, 3) := by decide +kernel
theorem d1_18 : decode prog_5_method_1_code 18 = .ok (.aload_n 0, 1) := by decide +kernel
theorem d1_19 : decode prog_5_method_1_code 19 = .ok (.iconst 0, 1) := by decide +kernel
theorem d1_20 : decode prog_5_method_1_code 20 = .ok (.newarray .int, 2) := by decide +kernel
theorem d1_22 : decode prog_5_method_1_code 22 = .ok (.putfield 16, 3) := by decide +kernel
theorem d1_25 : decode prog_5_method_1_code 25 = .ok (.aload_n 0, 1) := by decide +kernel
theorem d1_26 : decode prog_5_method_1_code 26 = .ok (.iconst 0, 1) := by decide +kernel
theorem d1_27 : decode prog_5_method_1_code 27 = .ok (.newarray .int, 2) := by decide +kernel
theorem d1_29 : decode prog_5_method_1_code 29 = .ok (.putfield 20, 3) := by decide +kernel
theorem d1_32 : decode prog_5_method_1_code 32 = .ok (.aload_n 0, 1) := by decide +kernel
theorem d1_33 : decode prog_5_method_1_code 33 = .ok (.iconst 0, 1) := by decide +kernel
theorem d1_34 : decode prog_5_method_1_code 34 = .ok (.newarray .int, 2) := by decide +kernel
theorem d1_36 : decode prog_5_method_1_code 36 = .ok (.putfield 23, 3) := by decide +kernel
theorem d1_39 : decode prog_5_method_1_code 39 = .ok (.aload_n 0, 1) := by decide +kernel
theorem d1_40 : decode prog_5_method_1_code 40 = .ok (.iconst 0, 1) := by decide +kernel
theorem d1_41 : decode prog_5_method_1_code 41 = .ok (.newarray .int, 2) := by decide +kernel
theorem d1_43 : decode prog_5_method_1_code 43 = .ok (.putfield 26, 3) := by decide +kernel
theorem d1_46 : decode prog_5_method_1_code 46 = .ok (.aload_n 0, 1) := by decide +kernel
theorem d1_47 : decode prog_5_method_1_code 47 = .ok (.iconst 0, 1) := by decide +kernel
theorem d1_48 : decode prog_5_method_1_code 48 = .ok (.newarray .int, 2) := by decide +kernel
theorem d1_50 : decode prog_5_method_1_code 50 = .ok (.putfield 29, 3) := by decide +kernel
theorem d1_53 : decode prog_5_method_1_code 53 = .ok (.aload_n 0, 1) := by decide +kernel
theorem d1_54 : decode prog_5_method_1_code 54 = .ok (.aload_n 1, 1) := by decide +kernel
theorem d1_55 : decode prog_5_method_1_code 55 = .ok (.putfield 32, 3) := by decide +kernel
theorem d1_58 : decode prog_5_method_1_code 58 = .ok (.aload_n 0, 1) := by decide +kernel
theorem d1_59 : decode prog_5_method_1_code 59 = .ok (.aload_n 1, 1) := by decide +kernel
theorem d1_60 : decode prog_5_method_1_code 60 = .ok (.arraylength, 1) := by decide +kernel
theorem d1_61 : decode prog_5_method_1_code 61 = .ok (.bipush 64, 2) := by decide +kernel
theorem d1_63 : decode prog_5_method_1_code 63 = .ok (.if_icmp .ne 9, 3) := by decide +kernel
theorem d1_72 : decode prog_5_method_1_code 72 = .ok (.lconst 1, 1) := by decide +kernel
theorem d1_73 : decode prog_5_method_1_code 73 = .ok (.aload_n 1, 1) := by decide +kernel
theorem d1_74 : decode prog_5_method_1_code 74 = .ok (.arraylength, 1) := by decide +kernel
theorem d1_75 : decode prog_5_method_1_code 75 = .ok (.lshl, 1) := by decide +kernel
theorem d1_76 : decode prog_5_method_1_code 76 = .ok (.lconst 1, 1) := by decide +kernel
theorem d1_77 : decode prog_5_method_1_code 77 = .ok (.lsub, 1) := by decide +kernel
theorem d1_78 : decode prog_5_method_1_code 78 = .ok (.putfield 39, 3) := by decide +kernel
theorem d1_81 : decode prog_5_method_1_code 81 = .ok (.return_, 1) := by decide +kernel
theorem pn_1 : plainName "com/example/quorumstone/quorumstone/check/Frames" = true := by first | (simp [plainName, overriddenIn]; done) | decide +kernel
theorem ef_1 (m : MethodId) (r0 : Addr) (r1 : Addr) : entryFrame m #[(.ref r0), (.ref r1)] 2 = mkF m 0 #[.val (.ref r0), .val (.ref r1)] [] := by first | (simp [entryFrame, mkF, argsToLocals, Value.category]; done) | rfl
abbrev Q1 (Z : State) (r0 : Addr) (r1 : Addr) (kr : ClassId) (h0 : Heap) (n0 : Nat) (v : Option Value) (h : Heap) (L : List Loc) : Prop := v = none ∧ Fr n0 L ∧ h0.size ≤ h.size ∧ FrS Z h r0 (0 : Int32) (0 : Int32) [] [] [] [] [] [] []
set_option maxRecDepth 65536 in
set_option maxHeartbeats 40000000 in
theorem rm1 (l : Launch) (Z : State) (a0 : Array Value) (hw : ∀ d ∈ tables_1, d.before a0 Z = true) (ws : List Jvm.Cond) (r0 : Addr) (r1 : Addr) (kr : ClassId) (h0 : Heap) (n0 : Nat) (Z0 : n0 ≤ h0.size) (O0 : Fm Z h0 r0 .null .null .null .null .null .null .null .null (.long (0 : Int64)) (.int (0 : Int32))) (g_r0 : n0 ≤ r0) (h01 : r0 < r1) (V_r1 : Arv Z h0 r1 kr .long (0 : Int32) [] (.long (0 : Int64))) :
    MetFree l (⟨"com/example/quorumstone/quorumstone/check/Frames", "<init>", "([J)V"⟩ : MethodName) (head1 (Jvm.Cond.code (⟨"com/example/quorumstone/quorumstone/check/Frames", "<init>", "([J)V"⟩ : MethodName) prog_5_method_1_code 2 none :: ws) ({ frames := 1, cells := 7, slots := 0, locals := 12 } : Room)) (fun a U => a = #[(.ref r0), (.ref r1)] ∧ Z.Warmed39 U.vm ∧ U.heap = h0) (fun _ _ _ _ _ => True) (fun _ U o U' => ∃ v L, o = .returned v ∧ Q1 Z r0 r1 kr h0 n0 v U'.heap L ∧ FrameEnd U o U' L 7 0) := by
  refine MetFree.of_bodySF (plainFor_of_name pn_1) hisR ?_
  intro p ev s m args below meth c s₁ Bd hml0 hP hK
  obtain ⟨rfl, hZ, hh⟩ := hP
  have hx := Bd.exec
  have hby := Bd.bytes
  have hml : c.maxLocals = 2 := hml0
  have hown : s.vm.findClass "com/example/quorumstone/quorumstone/check/Frames" = some m.cls := findClass_of_methodNamed Bd.named
  have hnm := (name_of_methodNamed Bd.named Bd.method).1
  have X0 : Stand p l ev ({ frames := 1, cells := 7, slots := 0, locals := 12 } : Room) s m #[(.ref r0), (.ref r1)] below meth c s₁ [] 0 0 := Stand.of_body Bd
  have eh0 : s₁.heap = h0 := by rw [← hh, Bd.state]; rfl
  have N0 := Fr.nil n0
  have Zs := Z0
  show Gol p ev below (FrameEnd s) (Q1 Z r0 r1 kr h0 n0) 7 0 (s₁.setTop (entryFrame m #[(.ref r0), (.ref r1)] 2))
  rw [ef_1]
  obtain ⟨E_r0, F_r0_decided, F_r0_taken, F_r0_branchClass, F_r0_first, F_r0_step, F_r0_next, F_r0_last, F_r0_classServers, F_r0_allClasses, F_r0_depth⟩ := O0
  have ne_r0_r1 : r0 ≠ r1 := Nat.ne_of_lt h01
  have K := Keep.refl h0 [r0]
  show GolF _ _ _ _ _ _ _ s₁ m 0 #[.val (.ref r0), .val (.ref r1)] []
  refine Gol.aloadN X0 hx hby d1_0 (pc' := 1) rfl rfl rfl ?_
  refine Gol.initO X0 hx hby hZ hown (hw _ (List.mem_of_getElem? (i := 7) rfl)) (hw _ (List.mem_of_getElem? (i := 8) rfl)) (hw _ (List.mem_of_getElem? (i := 9) rfl)) eh0 0 d1_1 (pc' := 4) rfl (by rw [hml]; rfl) (by decide) (Nat.le_of_eq rfl) (by decide) ?_
  intro T1 X1 e1
  refine Gol.aloadN X1 hx hby d1_4 (pc' := 5) rfl rfl rfl ?_
  refine Gol.iconst X1 hx hby d1_5 (pc' := 6) rfl (z := (0 : Int32)) rfl ?_
  refine Gol.newarr X1 hx hby hZ (hw _ (List.mem_of_getElem? (i := 3) rfl)) e1 0 d1_6 (pc' := 8) rfl (by decide) (by decide) (by decide) (by decide) (by decide) ?_
  intro T2 h2 k2 b2 g2 X2 e2 E2 A2
  have lo_r0_b2 : r0 < b2 := Nat.lt_of_lt_of_le E_r0.lt (Nat.le_of_eq g2.symm)
  have ne_r0_b2 : r0 ≠ b2 := Nat.ne_of_lt lo_r0_b2
  have lo_r1_b2 : r1 < b2 := Nat.lt_of_lt_of_le V_r1.lt (Nat.le_of_eq g2.symm)
  have ne_r1_b2 : r1 ≠ b2 := Nat.ne_of_lt lo_r1_b2
  have g_b2 : n0 ≤ b2 := Nat.le_trans Zs (Nat.le_of_eq g2.symm)
  have sz_b2 : h0.size ≤ b2 := Nat.le_trans K.1 (Nat.le_of_eq g2.symm)
  have E_r0 := E_r0.ext E2
  have F_r0_decided := F_r0_decided.ext E2
  have F_r0_taken := F_r0_taken.ext E2
  have F_r0_branchClass := F_r0_branchClass.ext E2
  have F_r0_first := F_r0_first.ext E2
  have F_r0_step := F_r0_step.ext E2
  have F_r0_next := F_r0_next.ext E2
  have F_r0_last := F_r0_last.ext E2
  have F_r0_classServers := F_r0_classServers.ext E2
  have F_r0_allClasses := F_r0_allClasses.ext E2
  have F_r0_depth := F_r0_depth.ext E2
  have V_r1 := V_r1.ext E2
  have K := K.ext E2
  have Zs := Nat.le_trans Zs E2.1
  have V_b2 : Arv Z h2 b2 k2 .long (0 : Int32) [] (.long (0 : Int64)) := A2
  refine Gol.putF X2 hx hby hZ hown (host := "") (Or.inl (hw _ (List.mem_of_getElem? (i := 10) rfl))) Via.refl e2 F_r0_decided E_r0 (Or.inl (hw _ (List.mem_of_getElem? (i := 11) rfl))) (hw _ (List.mem_of_getElem? (i := 1) rfl)) (ty := (.array .long)) (by decide) rfl rfl d1_8 (pc' := 11) rfl ?_
  intro T3 h3 X3 e3 W3
  have E_r0 := E_r0.wr W3
  have F_r0_decided := F_r0_decided.same W3
  have F_r0_taken := F_r0_taken.other W3 (Or.inr (slot_ne (Or.inl (hw _ (List.mem_of_getElem? (i := 13) rfl))) (Or.inl (hw _ (List.mem_of_getElem? (i := 11) rfl))) (by decide) (t := (.array .long)) (t' := (.array .long)) (by decide) (by decide)))
  have F_r0_branchClass := F_r0_branchClass.other W3 (Or.inr (slot_ne (Or.inl (hw _ (List.mem_of_getElem? (i := 16) rfl))) (Or.inl (hw _ (List.mem_of_getElem? (i := 11) rfl))) (by decide) (t := (.array .int)) (t' := (.array .long)) (by decide) (by decide)))
  have F_r0_first := F_r0_first.other W3 (Or.inr (slot_ne (Or.inl (hw _ (List.mem_of_getElem? (i := 18) rfl))) (Or.inl (hw _ (List.mem_of_getElem? (i := 11) rfl))) (by decide) (t := (.array .int)) (t' := (.array .long)) (by decide) (by decide)))
  have F_r0_step := F_r0_step.other W3 (Or.inr (slot_ne (Or.inl (hw _ (List.mem_of_getElem? (i := 20) rfl))) (Or.inl (hw _ (List.mem_of_getElem? (i := 11) rfl))) (by decide) (t := (.array .int)) (t' := (.array .long)) (by decide) (by decide)))
  have F_r0_next := F_r0_next.other W3 (Or.inr (slot_ne (Or.inl (hw _ (List.mem_of_getElem? (i := 22) rfl))) (Or.inl (hw _ (List.mem_of_getElem? (i := 11) rfl))) (by decide) (t := (.array .int)) (t' := (.array .long)) (by decide) (by decide)))
  have F_r0_last := F_r0_last.other W3 (Or.inr (slot_ne (Or.inl (hw _ (List.mem_of_getElem? (i := 24) rfl))) (Or.inl (hw _ (List.mem_of_getElem? (i := 11) rfl))) (by decide) (t := (.array .int)) (t' := (.array .long)) (by decide) (by decide)))
  have F_r0_classServers := F_r0_classServers.other W3 (Or.inr (slot_ne (Or.inr (hw _ (List.mem_of_getElem? (i := 26) rfl))) (Or.inl (hw _ (List.mem_of_getElem? (i := 11) rfl))) (by decide) (t := (.array .long)) (t' := (.array .long)) (by decide) (by decide)))
  have F_r0_allClasses := F_r0_allClasses.other W3 (Or.inr (slot_ne (Or.inr (hw _ (List.mem_of_getElem? (i := 28) rfl))) (Or.inl (hw _ (List.mem_of_getElem? (i := 11) rfl))) (by decide) (t := .long) (t' := (.array .long)) (by decide) (by decide)))
  have F_r0_depth := F_r0_depth.other W3 (Or.inr (slot_ne (Or.inl (hw _ (List.mem_of_getElem? (i := 35) rfl))) (Or.inl (hw _ (List.mem_of_getElem? (i := 11) rfl))) (by decide) (t := .int) (t' := (.array .long)) (by decide) (by decide)))
  have V_r1 := V_r1.other W3 ne_r0_r1.symm
  have V_b2 := V_b2.other W3 ne_r0_b2.symm
  have K := K.wr W3 (Or.inl (List.mem_of_getElem? (i := 0) rfl))
  have Zs := Nat.le_trans Zs (Keep.of_wr W3).1
  have N3 := Fr.snoc X3 N0 g_r0
  refine Gol.aloadN X3 hx hby d1_11 (pc' := 12) rfl rfl rfl ?_
  refine Gol.iconst X3 hx hby d1_12 (pc' := 13) rfl (z := (0 : Int32)) rfl ?_
  refine Gol.newarr X3 hx hby hZ (hw _ (List.mem_of_getElem? (i := 3) rfl)) e3 0 d1_13 (pc' := 15) rfl (by decide) (by decide) (by decide) (by decide) (by decide) ?_
  intro T4 h4 k4 b4 g4 X4 e4 E4 A4
  have lo_r0_b4 : r0 < b4 := Nat.lt_of_lt_of_le E_r0.lt (Nat.le_of_eq g4.symm)
  have ne_r0_b4 : r0 ≠ b4 := Nat.ne_of_lt lo_r0_b4
  have lo_r1_b4 : r1 < b4 := Nat.lt_of_lt_of_le V_r1.lt (Nat.le_of_eq g4.symm)
  have ne_r1_b4 : r1 ≠ b4 := Nat.ne_of_lt lo_r1_b4
  have lo_b2_b4 : b2 < b4 := Nat.lt_of_lt_of_le V_b2.lt (Nat.le_of_eq g4.symm)
  have ne_b2_b4 : b2 ≠ b4 := Nat.ne_of_lt lo_b2_b4
  have g_b4 : n0 ≤ b4 := Nat.le_trans Zs (Nat.le_of_eq g4.symm)
  have sz_b4 : h0.size ≤ b4 := Nat.le_trans K.1 (Nat.le_of_eq g4.symm)
  have E_r0 := E_r0.ext E4
  have F_r0_decided := F_r0_decided.ext E4
  have F_r0_taken := F_r0_taken.ext E4
  have F_r0_branchClass := F_r0_branchClass.ext E4
  have F_r0_first := F_r0_first.ext E4
  have F_r0_step := F_r0_step.ext E4
  have F_r0_next := F_r0_next.ext E4
  have F_r0_last := F_r0_last.ext E4
  have F_r0_classServers := F_r0_classServers.ext E4
  have F_r0_allClasses := F_r0_allClasses.ext E4
  have F_r0_depth := F_r0_depth.ext E4
  have V_r1 := V_r1.ext E4
  have V_b2 := V_b2.ext E4
  have K := K.ext E4
  have Zs := Nat.le_trans Zs E4.1
  have V_b4 : Arv Z h4 b4 k4 .long (0 : Int32) [] (.long (0 : Int64)) := A4
  refine Gol.putF X4 hx hby hZ hown (host := "") (Or.inl (hw _ (List.mem_of_getElem? (i := 12) rfl))) Via.refl e4 F_r0_taken E_r0 (Or.inl (hw _ (List.mem_of_getElem? (i := 13) rfl))) (hw _ (List.mem_of_getElem? (i := 1) rfl)) (ty := (.array .long)) (by decide) rfl rfl d1_15 (pc' := 18) rfl ?_
  intro T5 h5 X5 e5 W5
  have E_r0 := E_r0.wr W5
  have F_r0_decided := F_r0_decided.other W5 (Or.inr (slot_ne (Or.inl (hw _ (List.mem_of_getElem? (i := 11) rfl))) (Or.inl (hw _ (List.mem_of_getElem? (i := 13) rfl))) (by decide) (t := (.array .long)) (t' := (.array .long)) (by decide) (by decide)))
  have F_r0_taken := F_r0_taken.same W5
  have F_r0_branchClass := F_r0_branchClass.other W5 (Or.inr (slot_ne (Or.inl (hw _ (List.mem_of_getElem? (i := 16) rfl))) (Or.inl (hw _ (List.mem_of_getElem? (i := 13) rfl))) (by decide) (t := (.array .int)) (t' := (.array .long)) (by decide) (by decide)))
  have F_r0_first := F_r0_first.other W5 (Or.inr (slot_ne (Or.inl (hw _ (List.mem_of_getElem? (i := 18) rfl))) (Or.inl (hw _ (List.mem_of_getElem? (i := 13) rfl))) (by decide) (t := (.array .int)) (t' := (.array .long)) (by decide) (by decide)))
  have F_r0_step := F_r0_step.other W5 (Or.inr (slot_ne (Or.inl (hw _ (List.mem_of_getElem? (i := 20) rfl))) (Or.inl (hw _ (List.mem_of_getElem? (i := 13) rfl))) (by decide) (t := (.array .int)) (t' := (.array .long)) (by decide) (by decide)))
  have F_r0_next := F_r0_next.other W5 (Or.inr (slot_ne (Or.inl (hw _ (List.mem_of_getElem? (i := 22) rfl))) (Or.inl (hw _ (List.mem_of_getElem? (i := 13) rfl))) (by decide) (t := (.array .int)) (t' := (.array .long)) (by decide) (by decide)))
  have F_r0_last := F_r0_last.other W5 (Or.inr (slot_ne (Or.inl (hw _ (List.mem_of_getElem? (i := 24) rfl))) (Or.inl (hw _ (List.mem_of_getElem? (i := 13) rfl))) (by decide) (t := (.array .int)) (t' := (.array .long)) (by decide) (by decide)))
  have F_r0_classServers := F_r0_classServers.other W5 (Or.inr (slot_ne (Or.inr (hw _ (List.mem_of_getElem? (i := 26) rfl))) (Or.inl (hw _ (List.mem_of_getElem? (i := 13) rfl))) (by decide) (t := (.array .long)) (t' := (.array .long)) (by decide) (by decide)))
  have F_r0_allClasses := F_r0_allClasses.other W5 (Or.inr (slot_ne (Or.inr (hw _ (List.mem_of_getElem? (i := 28) rfl))) (Or.inl (hw _ (List.mem_of_getElem? (i := 13) rfl))) (by decide) (t := .long) (t' := (.array .long)) (by decide) (by decide)))
  have F_r0_depth := F_r0_depth.other W5 (Or.inr (slot_ne (Or.inl (hw _ (List.mem_of_getElem? (i := 35) rfl))) (Or.inl (hw _ (List.mem_of_getElem? (i := 13) rfl))) (by decide) (t := .int) (t' := (.array .long)) (by decide) (by decide)))
  have V_r1 := V_r1.other W5 ne_r0_r1.symm
  have V_b2 := V_b2.other W5 ne_r0_b2.symm
  have V_b4 := V_b4.other W5 ne_r0_b4.symm
  have K := K.wr W5 (Or.inl (List.mem_of_getElem? (i := 0) rfl))
  have Zs := Nat.le_trans Zs (Keep.of_wr W5).1
  have N5 := Fr.snoc X5 N3 g_r0
  refine Gol.aloadN X5 hx hby d1_18 (pc' := 19) rfl rfl rfl ?_
  refine Gol.iconst X5 hx hby d1_19 (pc' := 20) rfl (z := (0 : Int32)) rfl ?_
  refine Gol.newarr X5 hx hby hZ (hw _ (List.mem_of_getElem? (i := 14) rfl)) e5 0 d1_20 (pc' := 22) rfl (by decide) (by decide) (by decide) (by decide) (by decide) ?_
  intro T6 h6 k6 b6 g6 X6 e6 E6 A6
  have lo_r0_b6 : r0 < b6 := Nat.lt_of_lt_of_le E_r0.lt (Nat.le_of_eq g6.symm)
  have ne_r0_b6 : r0 ≠ b6 := Nat.ne_of_lt lo_r0_b6
  have lo_r1_b6 : r1 < b6 := Nat.lt_of_lt_of_le V_r1.lt (Nat.le_of_eq g6.symm)
  have ne_r1_b6 : r1 ≠ b6 := Nat.ne_of_lt lo_r1_b6
  have lo_b2_b6 : b2 < b6 := Nat.lt_of_lt_of_le V_b2.lt (Nat.le_of_eq g6.symm)
  have ne_b2_b6 : b2 ≠ b6 := Nat.ne_of_lt lo_b2_b6
  have lo_b4_b6 : b4 < b6 := Nat.lt_of_lt_of_le V_b4.lt (Nat.le_of_eq g6.symm)
  have ne_b4_b6 : b4 ≠ b6 := Nat.ne_of_lt lo_b4_b6
  have g_b6 : n0 ≤ b6 := Nat.le_trans Zs (Nat.le_of_eq g6.symm)
  have sz_b6 : h0.size ≤ b6 := Nat.le_trans K.1 (Nat.le_of_eq g6.symm)
  have E_r0 := E_r0.ext E6
  have F_r0_decided := F_r0_decided.ext E6
  have F_r0_taken := F_r0_taken.ext E6
  have F_r0_branchClass := F_r0_branchClass.ext E6
  have F_r0_first := F_r0_first.ext E6
  have F_r0_step := F_r0_step.ext E6
  have F_r0_next := F_r0_next.ext E6
  have F_r0_last := F_r0_last.ext E6
  have F_r0_classServers := F_r0_classServers.ext E6
  have F_r0_allClasses := F_r0_allClasses.ext E6
  have F_r0_depth := F_r0_depth.ext E6
  have V_r1 := V_r1.ext E6
  have V_b2 := V_b2.ext E6
  have V_b4 := V_b4.ext E6
  have K := K.ext E6
  have Zs := Nat.le_trans Zs E6.1
  have V_b6 : Arv Z h6 b6 k6 .int (0 : Int32) [] (.int (0 : Int32)) := A6
  refine Gol.putF X6 hx hby hZ hown (host := "") (Or.inl (hw _ (List.mem_of_getElem? (i := 15) rfl))) Via.refl e6 F_r0_branchClass E_r0 (Or.inl (hw _ (List.mem_of_getElem? (i := 16) rfl))) (hw _ (List.mem_of_getElem? (i := 1) rfl)) (ty := (.array .int)) (by decide) rfl rfl d1_22 (pc' := 25) rfl ?_
  intro T7 h7 X7 e7 W7
  have E_r0 := E_r0.wr W7
  have F_r0_decided := F_r0_decided.other W7 (Or.inr (slot_ne (Or.inl (hw _ (List.mem_of_getElem? (i := 11) rfl))) (Or.inl (hw _ (List.mem_of_getElem? (i := 16) rfl))) (by decide) (t := (.array .long)) (t' := (.array .int)) (by decide) (by decide)))
  have F_r0_taken := F_r0_taken.other W7 (Or.inr (slot_ne (Or.inl (hw _ (List.mem_of_getElem? (i := 13) rfl))) (Or.inl (hw _ (List.mem_of_getElem? (i := 16) rfl))) (by decide) (t := (.array .long)) (t' := (.array .int)) (by decide) (by decide)))
  have F_r0_branchClass := F_r0_branchClass.same W7
  have F_r0_first := F_r0_first.other W7 (Or.inr (slot_ne (Or.inl (hw _ (List.mem_of_getElem? (i := 18) rfl))) (Or.inl (hw _ (List.mem_of_getElem? (i := 16) rfl))) (by decide) (t := (.array .int)) (t' := (.array .int)) (by decide) (by decide)))
  have F_r0_step := F_r0_step.other W7 (Or.inr (slot_ne (Or.inl (hw _ (List.mem_of_getElem? (i := 20) rfl))) (Or.inl (hw _ (List.mem_of_getElem? (i := 16) rfl))) (by decide) (t := (.array .int)) (t' := (.array .int)) (by decide) (by decide)))
  have F_r0_next := F_r0_next.other W7 (Or.inr (slot_ne (Or.inl (hw _ (List.mem_of_getElem? (i := 22) rfl))) (Or.inl (hw _ (List.mem_of_getElem? (i := 16) rfl))) (by decide) (t := (.array .int)) (t' := (.array .int)) (by decide) (by decide)))
  have F_r0_last := F_r0_last.other W7 (Or.inr (slot_ne (Or.inl (hw _ (List.mem_of_getElem? (i := 24) rfl))) (Or.inl (hw _ (List.mem_of_getElem? (i := 16) rfl))) (by decide) (t := (.array .int)) (t' := (.array .int)) (by decide) (by decide)))
  have F_r0_classServers := F_r0_classServers.other W7 (Or.inr (slot_ne (Or.inr (hw _ (List.mem_of_getElem? (i := 26) rfl))) (Or.inl (hw _ (List.mem_of_getElem? (i := 16) rfl))) (by decide) (t := (.array .long)) (t' := (.array .int)) (by decide) (by decide)))
  have F_r0_allClasses := F_r0_allClasses.other W7 (Or.inr (slot_ne (Or.inr (hw _ (List.mem_of_getElem? (i := 28) rfl))) (Or.inl (hw _ (List.mem_of_getElem? (i := 16) rfl))) (by decide) (t := .long) (t' := (.array .int)) (by decide) (by decide)))
  have F_r0_depth := F_r0_depth.other W7 (Or.inr (slot_ne (Or.inl (hw _ (List.mem_of_getElem? (i := 35) rfl))) (Or.inl (hw _ (List.mem_of_getElem? (i := 16) rfl))) (by decide) (t := .int) (t' := (.array .int)) (by decide) (by decide)))
  have V_r1 := V_r1.other W7 ne_r0_r1.symm
  have V_b2 := V_b2.other W7 ne_r0_b2.symm
  have V_b4 := V_b4.other W7 ne_r0_b4.symm
  have V_b6 := V_b6.other W7 ne_r0_b6.symm
  have K := K.wr W7 (Or.inl (List.mem_of_getElem? (i := 0) rfl))
  have Zs := Nat.le_trans Zs (Keep.of_wr W7).1
  have N7 := Fr.snoc X7 N5 g_r0
  refine Gol.aloadN X7 hx hby d1_25 (pc' := 26) rfl rfl rfl ?_
  refine Gol.iconst X7 hx hby d1_26 (pc' := 27) rfl (z := (0 : Int32)) rfl ?_
  refine Gol.newarr X7 hx hby hZ (hw _ (List.mem_of_getElem? (i := 14) rfl)) e7 0 d1_27 (pc' := 29) rfl (by decide) (by decide) (by decide) (by decide) (by decide) ?_
  intro T8 h8 k8 b8 g8 X8 e8 E8 A8
  have lo_r0_b8 : r0 < b8 := Nat.lt_of_lt_of_le E_r0.lt (Nat.le_of_eq g8.symm)
  have ne_r0_b8 : r0 ≠ b8 := Nat.ne_of_lt lo_r0_b8
  have lo_r1_b8 : r1 < b8 := Nat.lt_of_lt_of_le V_r1.lt (Nat.le_of_eq g8.symm)
  have ne_r1_b8 : r1 ≠ b8 := Nat.ne_of_lt lo_r1_b8
  have lo_b2_b8 : b2 < b8 := Nat.lt_of_lt_of_le V_b2.lt (Nat.le_of_eq g8.symm)
  have ne_b2_b8 : b2 ≠ b8 := Nat.ne_of_lt lo_b2_b8
  have lo_b4_b8 : b4 < b8 := Nat.lt_of_lt_of_le V_b4.lt (Nat.le_of_eq g8.symm)
  have ne_b4_b8 : b4 ≠ b8 := Nat.ne_of_lt lo_b4_b8
  have lo_b6_b8 : b6 < b8 := Nat.lt_of_lt_of_le V_b6.lt (Nat.le_of_eq g8.symm)
  have ne_b6_b8 : b6 ≠ b8 := Nat.ne_of_lt lo_b6_b8
  have g_b8 : n0 ≤ b8 := Nat.le_trans Zs (Nat.le_of_eq g8.symm)
  have sz_b8 : h0.size ≤ b8 := Nat.le_trans K.1 (Nat.le_of_eq g8.symm)
  have E_r0 := E_r0.ext E8
  have F_r0_decided := F_r0_decided.ext E8
  have F_r0_taken := F_r0_taken.ext E8
  have F_r0_branchClass := F_r0_branchClass.ext E8
  have F_r0_first := F_r0_first.ext E8
  have F_r0_step := F_r0_step.ext E8
  have F_r0_next := F_r0_next.ext E8
  have F_r0_last := F_r0_last.ext E8
  have F_r0_classServers := F_r0_classServers.ext E8
  have F_r0_allClasses := F_r0_allClasses.ext E8
  have F_r0_depth := F_r0_depth.ext E8
  have V_r1 := V_r1.ext E8
  have V_b2 := V_b2.ext E8
  have V_b4 := V_b4.ext E8
  have V_b6 := V_b6.ext E8
  have K := K.ext E8
  have Zs := Nat.le_trans Zs E8.1
  have V_b8 : Arv Z h8 b8 k8 .int (0 : Int32) [] (.int (0 : Int32)) := A8
  refine Gol.putF X8 hx hby hZ hown (host := "") (Or.inl (hw _ (List.mem_of_getElem? (i := 17) rfl))) Via.refl e8 F_r0_first E_r0 (Or.inl (hw _ (List.mem_of_getElem? (i := 18) rfl))) (hw _ (List.mem_of_getElem? (i := 1) rfl)) (ty := (.array .int)) (by decide) rfl rfl d1_29 (pc' := 32) rfl ?_
  intro T9 h9 X9 e9 W9
  have E_r0 := E_r0.wr W9
  have F_r0_decided := F_r0_decided.other W9 (Or.inr (slot_ne (Or.inl (hw _ (List.mem_of_getElem? (i := 11) rfl))) (Or.inl (hw _ (List.mem_of_getElem? (i := 18) rfl))) (by decide) (t := (.array .long)) (t' := (.array .int)) (by decide) (by decide)))
  have F_r0_taken := F_r0_taken.other W9 (Or.inr (slot_ne (Or.inl (hw _ (List.mem_of_getElem? (i := 13) rfl))) (Or.inl (hw _ (List.mem_of_getElem? (i := 18) rfl))) (by decide) (t := (.array .long)) (t' := (.array .int)) (by decide) (by decide)))
  have F_r0_branchClass := F_r0_branchClass.other W9 (Or.inr (slot_ne (Or.inl (hw _ (List.mem_of_getElem? (i := 16) rfl))) (Or.inl (hw _ (List.mem_of_getElem? (i := 18) rfl))) (by decide) (t := (.array .int)) (t' := (.array .int)) (by decide) (by decide)))
  have F_r0_first := F_r0_first.same W9
  have F_r0_step := F_r0_step.other W9 (Or.inr (slot_ne (Or.inl (hw _ (List.mem_of_getElem? (i := 20) rfl))) (Or.inl (hw _ (List.mem_of_getElem? (i := 18) rfl))) (by decide) (t := (.array .int)) (t' := (.array .int)) (by decide) (by decide)))
  have F_r0_next := F_r0_next.other W9 (Or.inr (slot_ne (Or.inl (hw _ (List.mem_of_getElem? (i := 22) rfl))) (Or.inl (hw _ (List.mem_of_getElem? (i := 18) rfl))) (by decide) (t := (.array .int)) (t' := (.array .int)) (by decide) (by decide)))
  have F_r0_last := F_r0_last.other W9 (Or.inr (slot_ne (Or.inl (hw _ (List.mem_of_getElem? (i := 24) rfl))) (Or.inl (hw _ (List.mem_of_getElem? (i := 18) rfl))) (by decide) (t := (.array .int)) (t' := (.array .int)) (by decide) (by decide)))
  have F_r0_classServers := F_r0_classServers.other W9 (Or.inr (slot_ne (Or.inr (hw _ (List.mem_of_getElem? (i := 26) rfl))) (Or.inl (hw _ (List.mem_of_getElem? (i := 18) rfl))) (by decide) (t := (.array .long)) (t' := (.array .int)) (by decide) (by decide)))
  have F_r0_allClasses := F_r0_allClasses.other W9 (Or.inr (slot_ne (Or.inr (hw _ (List.mem_of_getElem? (i := 28) rfl))) (Or.inl (hw _ (List.mem_of_getElem? (i := 18) rfl))) (by decide) (t := .long) (t' := (.array .int)) (by decide) (by decide)))
  have F_r0_depth := F_r0_depth.other W9 (Or.inr (slot_ne (Or.inl (hw _ (List.mem_of_getElem? (i := 35) rfl))) (Or.inl (hw _ (List.mem_of_getElem? (i := 18) rfl))) (by decide) (t := .int) (t' := (.array .int)) (by decide) (by decide)))
  have V_r1 := V_r1.other W9 ne_r0_r1.symm
  have V_b2 := V_b2.other W9 ne_r0_b2.symm
  have V_b4 := V_b4.other W9 ne_r0_b4.symm
  have V_b6 := V_b6.other W9 ne_r0_b6.symm
  have V_b8 := V_b8.other W9 ne_r0_b8.symm
  have K := K.wr W9 (Or.inl (List.mem_of_getElem? (i := 0) rfl))
  have Zs := Nat.le_trans Zs (Keep.of_wr W9).1
  have N9 := Fr.snoc X9 N7 g_r0
  refine Gol.aloadN X9 hx hby d1_32 (pc' := 33) rfl rfl rfl ?_
  refine Gol.iconst X9 hx hby d1_33 (pc' := 34) rfl (z := (0 : Int32)) rfl ?_
  refine Gol.newarr X9 hx hby hZ (hw _ (List.mem_of_getElem? (i := 14) rfl)) e9 0 d1_34 (pc' := 36) rfl (by decide) (by decide) (by decide) (by decide) (by decide) ?_
  intro T10 h10 k10 b10 g10 X10 e10 E10 A10
  have lo_r0_b10 : r0 < b10 := Nat.lt_of_lt_of_le E_r0.lt (Nat.le_of_eq g10.symm)
  have ne_r0_b10 : r0 ≠ b10 := Nat.ne_of_lt lo_r0_b10
  have lo_r1_b10 : r1 < b10 := Nat.lt_of_lt_of_le V_r1.lt (Nat.le_of_eq g10.symm)
  have ne_r1_b10 : r1 ≠ b10 := Nat.ne_of_lt lo_r1_b10
  have lo_b2_b10 : b2 < b10 := Nat.lt_of_lt_of_le V_b2.lt (Nat.le_of_eq g10.symm)
  have ne_b2_b10 : b2 ≠ b10 := Nat.ne_of_lt lo_b2_b10
  have lo_b4_b10 : b4 < b10 := Nat.lt_of_lt_of_le V_b4.lt (Nat.le_of_eq g10.symm)
  have ne_b4_b10 : b4 ≠ b10 := Nat.ne_of_lt lo_b4_b10
  have lo_b6_b10 : b6 < b10 := Nat.lt_of_lt_of_le V_b6.lt (Nat.le_of_eq g10.symm)
  have ne_b6_b10 : b6 ≠ b10 := Nat.ne_of_lt lo_b6_b10
  have lo_b8_b10 : b8 < b10 := Nat.lt_of_lt_of_le V_b8.lt (Nat.le_of_eq g10.symm)
  have ne_b8_b10 : b8 ≠ b10 := Nat.ne_of_lt lo_b8_b10
  have g_b10 : n0 ≤ b10 := Nat.le_trans Zs (Nat.le_of_eq g10.symm)
  have sz_b10 : h0.size ≤ b10 := Nat.le_trans K.1 (Nat.le_of_eq g10.symm)
  have E_r0 := E_r0.ext E10
  have F_r0_decided := F_r0_decided.ext E10
  have F_r0_taken := F_r0_taken.ext E10
  have F_r0_branchClass := F_r0_branchClass.ext E10
  have F_r0_first := F_r0_first.ext E10
  have F_r0_step := F_r0_step.ext E10
  have F_r0_next := F_r0_next.ext E10
  have F_r0_last := F_r0_last.ext E10
  have F_r0_classServers := F_r0_classServers.ext E10
  have F_r0_allClasses := F_r0_allClasses.ext E10
  have F_r0_depth := F_r0_depth.ext E10
  have V_r1 := V_r1.ext E10
  have V_b2 := V_b2.ext E10
  have V_b4 := V_b4.ext E10
  have V_b6 := V_b6.ext E10
  have V_b8 := V_b8.ext E10
  have K := K.ext E10
  have Zs := Nat.le_trans Zs E10.1
  have V_b10 : Arv Z h10 b10 k10 .int (0 : Int32) [] (.int (0 : Int32)) := A10
  refine Gol.putF X10 hx hby hZ hown (host := "") (Or.inl (hw _ (List.mem_of_getElem? (i := 19) rfl))) Via.refl e10 F_r0_step E_r0 (Or.inl (hw _ (List.mem_of_getElem? (i := 20) rfl))) (hw _ (List.mem_of_getElem? (i := 1) rfl)) (ty := (.array .int)) (by decide) rfl rfl d1_36 (pc' := 39) rfl ?_
  intro T11 h11 X11 e11 W11
  have E_r0 := E_r0.wr W11
  have F_r0_decided := F_r0_decided.other W11 (Or.inr (slot_ne (Or.inl (hw _ (List.mem_of_getElem? (i := 11) rfl))) (Or.inl (hw _ (List.mem_of_getElem? (i := 20) rfl))) (by decide) (t := (.array .long)) (t' := (.array .int)) (by decide) (by decide)))
  have F_r0_taken := F_r0_taken.other W11 (Or.inr (slot_ne (Or.inl (hw _ (List.mem_of_getElem? (i := 13) rfl))) (Or.inl (hw _ (List.mem_of_getElem? (i := 20) rfl))) (by decide) (t := (.array .long)) (t' := (.array .int)) (by decide) (by decide)))
  have F_r0_branchClass := F_r0_branchClass.other W11 (Or.inr (slot_ne (Or.inl (hw _ (List.mem_of_getElem? (i := 16) rfl))) (Or.inl (hw _ (List.mem_of_getElem? (i := 20) rfl))) (by decide) (t := (.array .int)) (t' := (.array .int)) (by decide) (by decide)))
  have F_r0_first := F_r0_first.other W11 (Or.inr (slot_ne (Or.inl (hw _ (List.mem_of_getElem? (i := 18) rfl))) (Or.inl (hw _ (List.mem_of_getElem? (i := 20) rfl))) (by decide) (t := (.array .int)) (t' := (.array .int)) (by decide) (by decide)))
  have F_r0_step := F_r0_step.same W11
  have F_r0_next := F_r0_next.other W11 (Or.inr (slot_ne (Or.inl (hw _ (List.mem_of_getElem? (i := 22) rfl))) (Or.inl (hw _ (List.mem_of_getElem? (i := 20) rfl))) (by decide) (t := (.array .int)) (t' := (.array .int)) (by decide) (by decide)))
  have F_r0_last := F_r0_last.other W11 (Or.inr (slot_ne (Or.inl (hw _ (List.mem_of_getElem? (i := 24) rfl))) (Or.inl (hw _ (List.mem_of_getElem? (i := 20) rfl))) (by decide) (t := (.array .int)) (t' := (.array .int)) (by decide) (by decide)))
  have F_r0_classServers := F_r0_classServers.other W11 (Or.inr (slot_ne (Or.inr (hw _ (List.mem_of_getElem? (i := 26) rfl))) (Or.inl (hw _ (List.mem_of_getElem? (i := 20) rfl))) (by decide) (t := (.array .long)) (t' := (.array .int)) (by decide) (by decide)))
  have F_r0_allClasses := F_r0_allClasses.other W11 (Or.inr (slot_ne (Or.inr (hw _ (List.mem_of_getElem? (i := 28) rfl))) (Or.inl (hw _ (List.mem_of_getElem? (i := 20) rfl))) (by decide) (t := .long) (t' := (.array .int)) (by decide) (by decide)))
  have F_r0_depth := F_r0_depth.other W11 (Or.inr (slot_ne (Or.inl (hw _ (List.mem_of_getElem? (i := 35) rfl))) (Or.inl (hw _ (List.mem_of_getElem? (i := 20) rfl))) (by decide) (t := .int) (t' := (.array .int)) (by decide) (by decide)))
  have V_r1 := V_r1.other W11 ne_r0_r1.symm
  have V_b2 := V_b2.other W11 ne_r0_b2.symm
  have V_b4 := V_b4.other W11 ne_r0_b4.symm
  have V_b6 := V_b6.other W11 ne_r0_b6.symm
  have V_b8 := V_b8.other W11 ne_r0_b8.symm
  have V_b10 := V_b10.other W11 ne_r0_b10.symm
  have K := K.wr W11 (Or.inl (List.mem_of_getElem? (i := 0) rfl))
  have Zs := Nat.le_trans Zs (Keep.of_wr W11).1
  have N11 := Fr.snoc X11 N9 g_r0
  refine Gol.aloadN X11 hx hby d1_39 (pc' := 40) rfl rfl rfl ?_
  refine Gol.iconst X11 hx hby d1_40 (pc' := 41) rfl (z := (0 : Int32)) rfl ?_
  refine Gol.newarr X11 hx hby hZ (hw _ (List.mem_of_getElem? (i := 14) rfl)) e11 0 d1_41 (pc' := 43) rfl (by decide) (by decide) (by decide) (by decide) (by decide) ?_
  intro T12 h12 k12 b12 g12 X12 e12 E12 A12
  have lo_r0_b12 : r0 < b12 := Nat.lt_of_lt_of_le E_r0.lt (Nat.le_of_eq g12.symm)
  have ne_r0_b12 : r0 ≠ b12 := Nat.ne_of_lt lo_r0_b12
  have lo_r1_b12 : r1 < b12 := Nat.lt_of_lt_of_le V_r1.lt (Nat.le_of_eq g12.symm)
  have ne_r1_b12 : r1 ≠ b12 := Nat.ne_of_lt lo_r1_b12
  have lo_b2_b12 : b2 < b12 := Nat.lt_of_lt_of_le V_b2.lt (Nat.le_of_eq g12.symm)
  have ne_b2_b12 : b2 ≠ b12 := Nat.ne_of_lt lo_b2_b12
  have lo_b4_b12 : b4 < b12 := Nat.lt_of_lt_of_le V_b4.lt (Nat.le_of_eq g12.symm)
  have ne_b4_b12 : b4 ≠ b12 := Nat.ne_of_lt lo_b4_b12
  have lo_b6_b12 : b6 < b12 := Nat.lt_of_lt_of_le V_b6.lt (Nat.le_of_eq g12.symm)
  have ne_b6_b12 : b6 ≠ b12 := Nat.ne_of_lt lo_b6_b12
  have lo_b8_b12 : b8 < b12 := Nat.lt_of_lt_of_le V_b8.lt (Nat.le_of_eq g12.symm)
  have ne_b8_b12 : b8 ≠ b12 := Nat.ne_of_lt lo_b8_b12
  have lo_b10_b12 : b10 < b12 := Nat.lt_of_lt_of_le V_b10.lt (Nat.le_of_eq g12.symm)
  have ne_b10_b12 : b10 ≠ b12 := Nat.ne_of_lt lo_b10_b12
  have g_b12 : n0 ≤ b12 := Nat.le_trans Zs (Nat.le_of_eq g12.symm)
  have sz_b12 : h0.size ≤ b12 := Nat.le_trans K.1 (Nat.le_of_eq g12.symm)
  have E_r0 := E_r0.ext E12
  have F_r0_decided := F_r0_decided.ext E12
  have F_r0_taken := F_r0_taken.ext E12
  have F_r0_branchClass := F_r0_branchClass.ext E12
  have F_r0_first := F_r0_first.ext E12
  have F_r0_step := F_r0_step.ext E12
  have F_r0_next := F_r0_next.ext E12
  have F_r0_last := F_r0_last.ext E12
  have F_r0_classServers := F_r0_classServers.ext E12
  have F_r0_allClasses := F_r0_allClasses.ext E12
  have F_r0_depth := F_r0_depth.ext E12
  have V_r1 := V_r1.ext E12
  have V_b2 := V_b2.ext E12
  have V_b4 := V_b4.ext E12
  have V_b6 := V_b6.ext E12
  have V_b8 := V_b8.ext E12
  have V_b10 := V_b10.ext E12
  have K := K.ext E12
  have Zs := Nat.le_trans Zs E12.1
  have V_b12 : Arv Z h12 b12 k12 .int (0 : Int32) [] (.int (0 : Int32)) := A12
  refine Gol.putF X12 hx hby hZ hown (host := "") (Or.inl (hw _ (List.mem_of_getElem? (i := 21) rfl))) Via.refl e12 F_r0_next E_r0 (Or.inl (hw _ (List.mem_of_getElem? (i := 22) rfl))) (hw _ (List.mem_of_getElem? (i := 1) rfl)) (ty := (.array .int)) (by decide) rfl rfl d1_43 (pc' := 46) rfl ?_
  intro T13 h13 X13 e13 W13
  have E_r0 := E_r0.wr W13
  have F_r0_decided := F_r0_decided.other W13 (Or.inr (slot_ne (Or.inl (hw _ (List.mem_of_getElem? (i := 11) rfl))) (Or.inl (hw _ (List.mem_of_getElem? (i := 22) rfl))) (by decide) (t := (.array .long)) (t' := (.array .int)) (by decide) (by decide)))
  have F_r0_taken := F_r0_taken.other W13 (Or.inr (slot_ne (Or.inl (hw _ (List.mem_of_getElem? (i := 13) rfl))) (Or.inl (hw _ (List.mem_of_getElem? (i := 22) rfl))) (by decide) (t := (.array .long)) (t' := (.array .int)) (by decide) (by decide)))
  have F_r0_branchClass := F_r0_branchClass.other W13 (Or.inr (slot_ne (Or.inl (hw _ (List.mem_of_getElem? (i := 16) rfl))) (Or.inl (hw _ (List.mem_of_getElem? (i := 22) rfl))) (by decide) (t := (.array .int)) (t' := (.array .int)) (by decide) (by decide)))
  have F_r0_first := F_r0_first.other W13 (Or.inr (slot_ne (Or.inl (hw _ (List.mem_of_getElem? (i := 18) rfl))) (Or.inl (hw _ (List.mem_of_getElem? (i := 22) rfl))) (by decide) (t := (.array .int)) (t' := (.array .int)) (by decide) (by decide)))
  have F_r0_step := F_r0_step.other W13 (Or.inr (slot_ne (Or.inl (hw _ (List.mem_of_getElem? (i := 20) rfl))) (Or.inl (hw _ (List.mem_of_getElem? (i := 22) rfl))) (by decide) (t := (.array .int)) (t' := (.array .int)) (by decide) (by decide)))
  have F_r0_next := F_r0_next.same W13
  have F_r0_last := F_r0_last.other W13 (Or.inr (slot_ne (Or.inl (hw _ (List.mem_of_getElem? (i := 24) rfl))) (Or.inl (hw _ (List.mem_of_getElem? (i := 22) rfl))) (by decide) (t := (.array .int)) (t' := (.array .int)) (by decide) (by decide)))
  have F_r0_classServers := F_r0_classServers.other W13 (Or.inr (slot_ne (Or.inr (hw _ (List.mem_of_getElem? (i := 26) rfl))) (Or.inl (hw _ (List.mem_of_getElem? (i := 22) rfl))) (by decide) (t := (.array .long)) (t' := (.array .int)) (by decide) (by decide)))
  have F_r0_allClasses := F_r0_allClasses.other W13 (Or.inr (slot_ne (Or.inr (hw _ (List.mem_of_getElem? (i := 28) rfl))) (Or.inl (hw _ (List.mem_of_getElem? (i := 22) rfl))) (by decide) (t := .long) (t' := (.array .int)) (by decide) (by decide)))
  have F_r0_depth := F_r0_depth.other W13 (Or.inr (slot_ne (Or.inl (hw _ (List.mem_of_getElem? (i := 35) rfl))) (Or.inl (hw _ (List.mem_of_getElem? (i := 22) rfl))) (by decide) (t := .int) (t' := (.array .int)) (by decide) (by decide)))
  have V_r1 := V_r1.other W13 ne_r0_r1.symm
  have V_b2 := V_b2.other W13 ne_r0_b2.symm
  have V_b4 := V_b4.other W13 ne_r0_b4.symm
  have V_b6 := V_b6.other W13 ne_r0_b6.symm
  have V_b8 := V_b8.other W13 ne_r0_b8.symm
  have V_b10 := V_b10.other W13 ne_r0_b10.symm
  have V_b12 := V_b12.other W13 ne_r0_b12.symm
  have K := K.wr W13 (Or.inl (List.mem_of_getElem? (i := 0) rfl))
  have Zs := Nat.le_trans Zs (Keep.of_wr W13).1
  have N13 := Fr.snoc X13 N11 g_r0
  refine Gol.aloadN X13 hx hby d1_46 (pc' := 47) rfl rfl rfl ?_
  refine Gol.iconst X13 hx hby d1_47 (pc' := 48) rfl (z := (0 : Int32)) rfl ?_
  refine Gol.newarr X13 hx hby hZ (hw _ (List.mem_of_getElem? (i := 14) rfl)) e13 0 d1_48 (pc' := 50) rfl (by decide) (by decide) (by decide) (by decide) (by decide) ?_
  intro T14 h14 k14 b14 g14 X14 e14 E14 A14
  have lo_r0_b14 : r0 < b14 := Nat.lt_of_lt_of_le E_r0.lt (Nat.le_of_eq g14.symm)
  have ne_r0_b14 : r0 ≠ b14 := Nat.ne_of_lt lo_r0_b14
  have lo_r1_b14 : r1 < b14 := Nat.lt_of_lt_of_le V_r1.lt (Nat.le_of_eq g14.symm)
  have ne_r1_b14 : r1 ≠ b14 := Nat.ne_of_lt lo_r1_b14
  have lo_b2_b14 : b2 < b14 := Nat.lt_of_lt_of_le V_b2.lt (Nat.le_of_eq g14.symm)
  have ne_b2_b14 : b2 ≠ b14 := Nat.ne_of_lt lo_b2_b14
  have lo_b4_b14 : b4 < b14 := Nat.lt_of_lt_of_le V_b4.lt (Nat.le_of_eq g14.symm)
  have ne_b4_b14 : b4 ≠ b14 := Nat.ne_of_lt lo_b4_b14
  have lo_b6_b14 : b6 < b14 := Nat.lt_of_lt_of_le V_b6.lt (Nat.le_of_eq g14.symm)
  have ne_b6_b14 : b6 ≠ b14 := Nat.ne_of_lt lo_b6_b14
  have lo_b8_b14 : b8 < b14 := Nat.lt_of_lt_of_le V_b8.lt (Nat.le_of_eq g14.symm)
  have ne_b8_b14 : b8 ≠ b14 := Nat.ne_of_lt lo_b8_b14
  have lo_b10_b14 : b10 < b14 := Nat.lt_of_lt_of_le V_b10.lt (Nat.le_of_eq g14.symm)
  have ne_b10_b14 : b10 ≠ b14 := Nat.ne_of_lt lo_b10_b14
  have lo_b12_b14 : b12 < b14 := Nat.lt_of_lt_of_le V_b12.lt (Nat.le_of_eq g14.symm)
  have ne_b12_b14 : b12 ≠ b14 := Nat.ne_of_lt lo_b12_b14
  have g_b14 : n0 ≤ b14 := Nat.le_trans Zs (Nat.le_of_eq g14.symm)
  have sz_b14 : h0.size ≤ b14 := Nat.le_trans K.1 (Nat.le_of_eq g14.symm)
  have E_r0 := E_r0.ext E14
  have F_r0_decided := F_r0_decided.ext E14
  have F_r0_taken := F_r0_taken.ext E14
  have F_r0_branchClass := F_r0_branchClass.ext E14
  have F_r0_first := F_r0_first.ext E14
  have F_r0_step := F_r0_step.ext E14
  have F_r0_next := F_r0_next.ext E14
  have F_r0_last := F_r0_last.ext E14
  have F_r0_classServers := F_r0_classServers.ext E14
  have F_r0_allClasses := F_r0_allClasses.ext E14
  have F_r0_depth := F_r0_depth.ext E14
  have V_r1 := V_r1.ext E14
  have V_b2 := V_b2.ext E14
  have V_b4 := V_b4.ext E14
  have V_b6 := V_b6.ext E14
  have V_b8 := V_b8.ext E14
  have V_b10 := V_b10.ext E14
  have V_b12 := V_b12.ext E14
  have K := K.ext E14
  have Zs := Nat.le_trans Zs E14.1
  have V_b14 : Arv Z h14 b14 k14 .int (0 : Int32) [] (.int (0 : Int32)) := A14
  refine Gol.putF X14 hx hby hZ hown (host := "") (Or.inl (hw _ (List.mem_of_getElem? (i := 23) rfl))) Via.refl e14 F_r0_last E_r0 (Or.inl (hw _ (List.mem_of_getElem? (i := 24) rfl))) (hw _ (List.mem_of_getElem? (i := 1) rfl)) (ty := (.array .int)) (by decide) rfl rfl d1_50 (pc' := 53) rfl ?_
  intro T15 h15 X15 e15 W15
  have E_r0 := E_r0.wr W15
  have F_r0_decided := F_r0_decided.other W15 (Or.inr (slot_ne (Or.inl (hw _ (List.mem_of_getElem? (i := 11) rfl))) (Or.inl (hw _ (List.mem_of_getElem? (i := 24) rfl))) (by decide) (t := (.array .long)) (t' := (.array .int)) (by decide) (by decide)))
  have F_r0_taken := F_r0_taken.other W15 (Or.inr (slot_ne (Or.inl (hw _ (List.mem_of_getElem? (i := 13) rfl))) (Or.inl (hw _ (List.mem_of_getElem? (i := 24) rfl))) (by decide) (t := (.array .long)) (t' := (.array .int)) (by decide) (by decide)))
  have F_r0_branchClass := F_r0_branchClass.other W15 (Or.inr (slot_ne (Or.inl (hw _ (List.mem_of_getElem? (i := 16) rfl))) (Or.inl (hw _ (List.mem_of_getElem? (i := 24) rfl))) (by decide) (t := (.array .int)) (t' := (.array .int)) (by decide) (by decide)))
  have F_r0_first := F_r0_first.other W15 (Or.inr (slot_ne (Or.inl (hw _ (List.mem_of_getElem? (i := 18) rfl))) (Or.inl (hw _ (List.mem_of_getElem? (i := 24) rfl))) (by decide) (t := (.array .int)) (t' := (.array .int)) (by decide) (by decide)))
  have F_r0_step := F_r0_step.other W15 (Or.inr (slot_ne (Or.inl (hw _ (List.mem_of_getElem? (i := 20) rfl))) (Or.inl (hw _ (List.mem_of_getElem? (i := 24) rfl))) (by decide) (t := (.array .int)) (t' := (.array .int)) (by decide) (by decide)))
  have F_r0_next := F_r0_next.other W15 (Or.inr (slot_ne (Or.inl (hw _ (List.mem_of_getElem? (i := 22) rfl))) (Or.inl (hw _ (List.mem_of_getElem? (i := 24) rfl))) (by decide) (t := (.array .int)) (t' := (.array .int)) (by decide) (by decide)))
  have F_r0_last := F_r0_last.same W15
  have F_r0_classServers := F_r0_classServers.other W15 (Or.inr (slot_ne (Or.inr (hw _ (List.mem_of_getElem? (i := 26) rfl))) (Or.inl (hw _ (List.mem_of_getElem? (i := 24) rfl))) (by decide) (t := (.array .long)) (t' := (.array .int)) (by decide) (by decide)))
  have F_r0_allClasses := F_r0_allClasses.other W15 (Or.inr (slot_ne (Or.inr (hw _ (List.mem_of_getElem? (i := 28) rfl))) (Or.inl (hw _ (List.mem_of_getElem? (i := 24) rfl))) (by decide) (t := .long) (t' := (.array .int)) (by decide) (by decide)))
  have F_r0_depth := F_r0_depth.other W15 (Or.inr (slot_ne (Or.inl (hw _ (List.mem_of_getElem? (i := 35) rfl))) (Or.inl (hw _ (List.mem_of_getElem? (i := 24) rfl))) (by decide) (t := .int) (t' := (.array .int)) (by decide) (by decide)))
  have V_r1 := V_r1.other W15 ne_r0_r1.symm
  have V_b2 := V_b2.other W15 ne_r0_b2.symm
  have V_b4 := V_b4.other W15 ne_r0_b4.symm
  have V_b6 := V_b6.other W15 ne_r0_b6.symm
  have V_b8 := V_b8.other W15 ne_r0_b8.symm
  have V_b10 := V_b10.other W15 ne_r0_b10.symm
  have V_b12 := V_b12.other W15 ne_r0_b12.symm
  have V_b14 := V_b14.other W15 ne_r0_b14.symm
  have K := K.wr W15 (Or.inl (List.mem_of_getElem? (i := 0) rfl))
  have Zs := Nat.le_trans Zs (Keep.of_wr W15).1
  have N15 := Fr.snoc X15 N13 g_r0
  refine Gol.aloadN X15 hx hby d1_53 (pc' := 54) rfl rfl rfl ?_
  refine Gol.aloadN X15 hx hby d1_54 (pc' := 55) rfl rfl rfl ?_
  refine Gol.putF X15 hx hby hZ hown (host := "") (Or.inl (hw _ (List.mem_of_getElem? (i := 25) rfl))) Via.refl e15 F_r0_classServers E_r0 (Or.inr ⟨(hw _ (List.mem_of_getElem? (i := 26) rfl)), rfl, hnm⟩) (hw _ (List.mem_of_getElem? (i := 1) rfl)) (ty := (.array .long)) (by decide) rfl rfl d1_55 (pc' := 58) rfl ?_
  intro T16 h16 X16 e16 W16
  have E_r0 := E_r0.wr W16
  have F_r0_decided := F_r0_decided.other W16 (Or.inr (slot_ne (Or.inl (hw _ (List.mem_of_getElem? (i := 11) rfl))) (Or.inr (hw _ (List.mem_of_getElem? (i := 26) rfl))) (by decide) (t := (.array .long)) (t' := (.array .long)) (by decide) (by decide)))
  have F_r0_taken := F_r0_taken.other W16 (Or.inr (slot_ne (Or.inl (hw _ (List.mem_of_getElem? (i := 13) rfl))) (Or.inr (hw _ (List.mem_of_getElem? (i := 26) rfl))) (by decide) (t := (.array .long)) (t' := (.array .long)) (by decide) (by decide)))
  have F_r0_branchClass := F_r0_branchClass.other W16 (Or.inr (slot_ne (Or.inl (hw _ (List.mem_of_getElem? (i := 16) rfl))) (Or.inr (hw _ (List.mem_of_getElem? (i := 26) rfl))) (by decide) (t := (.array .int)) (t' := (.array .long)) (by decide) (by decide)))
  have F_r0_first := F_r0_first.other W16 (Or.inr (slot_ne (Or.inl (hw _ (List.mem_of_getElem? (i := 18) rfl))) (Or.inr (hw _ (List.mem_of_getElem? (i := 26) rfl))) (by decide) (t := (.array .int)) (t' := (.array .long)) (by decide) (by decide)))
  have F_r0_step := F_r0_step.other W16 (Or.inr (slot_ne (Or.inl (hw _ (List.mem_of_getElem? (i := 20) rfl))) (Or.inr (hw _ (List.mem_of_getElem? (i := 26) rfl))) (by decide) (t := (.array .int)) (t' := (.array .long)) (by decide) (by decide)))
  have F_r0_next := F_r0_next.other W16 (Or.inr (slot_ne (Or.inl (hw _ (List.mem_of_getElem? (i := 22) rfl))) (Or.inr (hw _ (List.mem_of_getElem? (i := 26) rfl))) (by decide) (t := (.array .int)) (t' := (.array .long)) (by decide) (by decide)))
  have F_r0_last := F_r0_last.other W16 (Or.inr (slot_ne (Or.inl (hw _ (List.mem_of_getElem? (i := 24) rfl))) (Or.inr (hw _ (List.mem_of_getElem? (i := 26) rfl))) (by decide) (t := (.array .int)) (t' := (.array .long)) (by decide) (by decide)))
  have F_r0_classServers := F_r0_classServers.same W16
  have F_r0_allClasses := F_r0_allClasses.other W16 (Or.inr (slot_ne (Or.inr (hw _ (List.mem_of_getElem? (i := 28) rfl))) (Or.inr (hw _ (List.mem_of_getElem? (i := 26) rfl))) (by decide) (t := .long) (t' := (.array .long)) (by decide) (by decide)))
  have F_r0_depth := F_r0_depth.other W16 (Or.inr (slot_ne (Or.inl (hw _ (List.mem_of_getElem? (i := 35) rfl))) (Or.inr (hw _ (List.mem_of_getElem? (i := 26) rfl))) (by decide) (t := .int) (t' := (.array .long)) (by decide) (by decide)))
  have V_r1 := V_r1.other W16 ne_r0_r1.symm
  have V_b2 := V_b2.other W16 ne_r0_b2.symm
  have V_b4 := V_b4.other W16 ne_r0_b4.symm
  have V_b6 := V_b6.other W16 ne_r0_b6.symm
  have V_b8 := V_b8.other W16 ne_r0_b8.symm
  have V_b10 := V_b10.other W16 ne_r0_b10.symm
  have V_b12 := V_b12.other W16 ne_r0_b12.symm
  have V_b14 := V_b14.other W16 ne_r0_b14.symm
  have K := K.wr W16 (Or.inl (List.mem_of_getElem? (i := 0) rfl))
  have Zs := Nat.le_trans Zs (Keep.of_wr W16).1
  have N16 := Fr.snoc X16 N15 g_r0
  refine Gol.aloadN X16 hx hby d1_58 (pc' := 59) rfl rfl rfl ?_
  refine Gol.aloadN X16 hx hby d1_59 (pc' := 60) rfl rfl rfl ?_
  refine Gol.alen X16 hx hby hZ e16 V_r1 d1_60 (pc' := 61) rfl ?_
  refine Gol.bipush X16 hx hby d1_61 (pc' := 63) rfl (z := (64 : Int32)) rfl ?_
  refine Gol.icmpYes X16 hx hby d1_63 (pc' := 72) (by decide) (feq (by decide : ¬ ((0 : Int32) = (64 : Int32)))).2 ?_
  refine Gol.lconst X16 hx hby d1_72 (pc' := 73) rfl (z := (1 : Int64)) rfl ?_
  refine Gol.aloadN X16 hx hby d1_73 (pc' := 74) rfl rfl rfl ?_
  refine Gol.alen X16 hx hby hZ e16 V_r1 d1_74 (pc' := 75) rfl ?_
  refine Gol.lshl X16 hx hby d1_75 (pc' := 76) rfl (z := (1 : Int64)) rfl ?_
  refine Gol.lconst X16 hx hby d1_76 (pc' := 77) rfl (z := (1 : Int64)) rfl ?_
  refine Gol.lsub X16 hx hby d1_77 (pc' := 78) rfl (z := (0 : Int64)) rfl ?_
  refine Gol.putF X16 hx hby hZ hown (host := "") (Or.inl (hw _ (List.mem_of_getElem? (i := 27) rfl))) Via.refl e16 F_r0_allClasses E_r0 (Or.inr ⟨(hw _ (List.mem_of_getElem? (i := 28) rfl)), rfl, hnm⟩) (hw _ (List.mem_of_getElem? (i := 1) rfl)) (ty := .long) (by decide) rfl rfl d1_78 (pc' := 81) rfl ?_
  intro T17 h17 X17 e17 W17
  have E_r0 := E_r0.wr W17
  have F_r0_decided := F_r0_decided.other W17 (Or.inr (slot_ne (Or.inl (hw _ (List.mem_of_getElem? (i := 11) rfl))) (Or.inr (hw _ (List.mem_of_getElem? (i := 28) rfl))) (by decide) (t := (.array .long)) (t' := .long) (by decide) (by decide)))
  have F_r0_taken := F_r0_taken.other W17 (Or.inr (slot_ne (Or.inl (hw _ (List.mem_of_getElem? (i := 13) rfl))) (Or.inr (hw _ (List.mem_of_getElem? (i := 28) rfl))) (by decide) (t := (.array .long)) (t' := .long) (by decide) (by decide)))
  have F_r0_branchClass := F_r0_branchClass.other W17 (Or.inr (slot_ne (Or.inl (hw _ (List.mem_of_getElem? (i := 16) rfl))) (Or.inr (hw _ (List.mem_of_getElem? (i := 28) rfl))) (by decide) (t := (.array .int)) (t' := .long) (by decide) (by decide)))
  have F_r0_first := F_r0_first.other W17 (Or.inr (slot_ne (Or.inl (hw _ (List.mem_of_getElem? (i := 18) rfl))) (Or.inr (hw _ (List.mem_of_getElem? (i := 28) rfl))) (by decide) (t := (.array .int)) (t' := .long) (by decide) (by decide)))
  have F_r0_step := F_r0_step.other W17 (Or.inr (slot_ne (Or.inl (hw _ (List.mem_of_getElem? (i := 20) rfl))) (Or.inr (hw _ (List.mem_of_getElem? (i := 28) rfl))) (by decide) (t := (.array .int)) (t' := .long) (by decide) (by decide)))
  have F_r0_next := F_r0_next.other W17 (Or.inr (slot_ne (Or.inl (hw _ (List.mem_of_getElem? (i := 22) rfl))) (Or.inr (hw _ (List.mem_of_getElem? (i := 28) rfl))) (by decide) (t := (.array .int)) (t' := .long) (by decide) (by decide)))
  have F_r0_last := F_r0_last.other W17 (Or.inr (slot_ne (Or.inl (hw _ (List.mem_of_getElem? (i := 24) rfl))) (Or.inr (hw _ (List.mem_of_getElem? (i := 28) rfl))) (by decide) (t := (.array .int)) (t' := .long) (by decide) (by decide)))
  have F_r0_classServers := F_r0_classServers.other W17 (Or.inr (slot_ne (Or.inr (hw _ (List.mem_of_getElem? (i := 26) rfl))) (Or.inr (hw _ (List.mem_of_getElem? (i := 28) rfl))) (by decide) (t := (.array .long)) (t' := .long) (by decide) (by decide)))
  have F_r0_allClasses := F_r0_allClasses.same W17
  have F_r0_depth := F_r0_depth.other W17 (Or.inr (slot_ne (Or.inl (hw _ (List.mem_of_getElem? (i := 35) rfl))) (Or.inr (hw _ (List.mem_of_getElem? (i := 28) rfl))) (by decide) (t := .int) (t' := .long) (by decide) (by decide)))
  have V_r1 := V_r1.other W17 ne_r0_r1.symm
  have V_b2 := V_b2.other W17 ne_r0_b2.symm
  have V_b4 := V_b4.other W17 ne_r0_b4.symm
  have V_b6 := V_b6.other W17 ne_r0_b6.symm
  have V_b8 := V_b8.other W17 ne_r0_b8.symm
  have V_b10 := V_b10.other W17 ne_r0_b10.symm
  have V_b12 := V_b12.other W17 ne_r0_b12.symm
  have V_b14 := V_b14.other W17 ne_r0_b14.symm
  have K := K.wr W17 (Or.inl (List.mem_of_getElem? (i := 0) rfl))
  have Zs := Nat.le_trans Zs (Keep.of_wr W17).1
  have N17 := Fr.snoc X17 N16 g_r0
  exact Gol.ret0 X17 hx hby Bd.returns Bd.notSynchronized d1_81 e17 ⟨rfl, N17, K.1, ⟨b2, b4, b6, b8, b10, b12, b14, k2, k4, k6, k8, k10, k12, k14, (.ref r1), (.long (0 : Int64)), ⟨E_r0, F_r0_decided, F_r0_taken, F_r0_branchClass, F_r0_first, F_r0_step, F_r0_next, F_r0_last, F_r0_classServers, F_r0_allClasses, F_r0_depth⟩, V_b2, V_b4, V_b6, V_b8, V_b10, V_b12, V_b14, lo_r0_b2, lo_b2_b4, lo_b4_b6, lo_b6_b8, lo_b8_b10, lo_b10_b12, lo_b12_b14⟩⟩ (by decide) (by decide)
theorem d3_0 : decode prog_5_method_3_code 0 = .ok (.aload_n 0, 1) := by decide +kernel
theorem d3_1 : decode prog_5_method_3_code 1 = .ok (.getfield 43, 3) := by decide +kernel
theorem d3_4 : decode prog_5_method_3_code 4 = .ok (.aload_n 0, 1) := by decide +kernel
theorem d3_5 : decode prog_5_method_3_code 5 = .ok (.getfield 26, 3) := by decide +kernel
theorem d3_8 : decode prog_5_method_3_code 8 = .ok (.arraylength, 1) := by decide +kernel
theorem d3_9 : decode prog_5_method_3_code 9 = .ok (.if_icmp .ne 107, 3) := by decide +kernel
theorem d3_12 : decode prog_5_method_3_code 12 = .ok (.bipush 64, 2) := by decide +kernel
theorem d3_14 : decode prog_5_method_3_code 14 = .ok (.iconst 2, 1) := by decide +kernel
theorem d3_15 : decode prog_5_method_3_code 15 = .ok (.aload_n 0, 1) := by decide +kernel
theorem d3_16 : decode prog_5_method_3_code 16 = .ok (.getfield 43, 3) := by decide +kernel
theorem d3_19 : decode prog_5_method_3_code 19 = .ok (.imul, 1) := by decide +kernel
theorem d3_20 : decode prog_5_method_3_code 20 = .ok (.invokestatic 47, 3) := by decide +kernel
theorem d3_23 : decode prog_5_method_3_code 23 = .ok (.istore 9, 2) := by decide +kernel
theorem d3_25 : decode prog_5_method_3_code 25 = .ok (.aload_n 0, 1) := by decide +kernel
theorem d3_26 : decode prog_5_method_3_code 26 = .ok (.aload_n 0, 1) := by decide +kernel
theorem d3_27 : decode prog_5_method_3_code 27 = .ok (.getfield 7, 3) := by decide +kernel
theorem d3_30 : decode prog_5_method_3_code 30 = .ok (.iload 9, 2) := by decide +kernel
theorem d3_32 : decode prog_5_method_3_code 32 = .ok (.invokestatic 53, 3) := by decide +kernel
theorem d3_35 : decode prog_5_method_3_code 35 = .ok (.putfield 7, 3) := by decide +kernel
theorem d3_38 : decode prog_5_method_3_code 38 = .ok (.aload_n 0, 1) := by decide +kernel
theorem d3_39 : decode prog_5_method_3_code 39 = .ok (.aload_n 0, 1) := by decide +kernel
theorem d3_40 : decode prog_5_method_3_code 40 = .ok (.getfield 13, 3) := by decide +kernel
theorem d3_43 : decode prog_5_method_3_code 43 = .ok (.iload 9, 2) := by decide +kernel
theorem d3_45 : decode prog_5_method_3_code 45 = .ok (.invokestatic 53, 3) := by decide +kernel
theorem d3_48 : decode prog_5_method_3_code 48 = .ok (.putfield 13, 3) := by decide +kernel
theorem d3_51 : decode prog_5_method_3_code 51 = .ok (.aload_n 0, 1) := by decide +kernel
theorem d3_52 : decode prog_5_method_3_code 52 = .ok (.aload_n 0, 1) := by decide +kernel
theorem d3_53 : decode prog_5_method_3_code 53 = .ok (.getfield 16, 3) := by decide +kernel
theorem d3_56 : decode prog_5_method_3_code 56 = .ok (.iload 9, 2) := by decide +kernel
theorem d3_58 : decode prog_5_method_3_code 58 = .ok (.invokestatic 59, 3) := by decide +kernel
theorem d3_61 : decode prog_5_method_3_code 61 = .ok (.putfield 16, 3) := by decide +kernel
theorem d3_64 : decode prog_5_method_3_code 64 = .ok (.aload_n 0, 1) := by decide +kernel
theorem d3_65 : decode prog_5_method_3_code 65 = .ok (.aload_n 0, 1) := by decide +kernel
theorem d3_66 : decode prog_5_method_3_code 66 = .ok (.getfield 20, 3) := by decide +kernel
theorem d3_69 : decode prog_5_method_3_code 69 = .ok (.iload 9, 2) := by decide +kernel
theorem d3_71 : decode prog_5_method_3_code 71 = .ok (.invokestatic 59, 3) := by decide +kernel
theorem d3_74 : decode prog_5_method_3_code 74 = .ok (.putfield 20, 3) := by decide +kernel
theorem d3_77 : decode prog_5_method_3_code 77 = .ok (.aload_n 0, 1) := by decide +kernel
theorem d3_78 : decode prog_5_method_3_code 78 = .ok (.aload_n 0, 1) := by decide +kernel
theorem d3_79 : decode prog_5_method_3_code 79 = .ok (.getfield 23, 3) := by decide +kernel
theorem d3_82 : decode prog_5_method_3_code 82 = .ok (.iload 9, 2) := by decide +kernel
theorem d3_84 : decode prog_5_method_3_code 84 = .ok (.invokestatic 59, 3) := by decide +kernel
theorem d3_87 : decode prog_5_method_3_code 87 = .ok (.putfield 23, 3) := by decide +kernel
theorem d3_90 : decode prog_5_method_3_code 90 = .ok (.aload_n 0, 1) := by decide +kernel
theorem d3_91 : decode prog_5_method_3_code 91 = .ok (.aload_n 0, 1) := by decide +kernel
theorem d3_92 : decode prog_5_method_3_code 92 = .ok (.getfield 26, 3) := by decide +kernel
theorem d3_95 : decode prog_5_method_3_code 95 = .ok (.iload 9, 2) := by decide +kernel
theorem d3_97 : decode prog_5_method_3_code 97 = .ok (.invokestatic 59, 3) := by decide +kernel
theorem d3_100 : decode prog_5_method_3_code 100 = .ok (.putfield 26, 3) := by decide +kernel
theorem d3_103 : decode prog_5_method_3_code 103 = .ok (.aload_n 0, 1) := by decide +kernel
theorem d3_104 : decode prog_5_method_3_code 104 = .ok (.aload_n 0, 1) := by decide +kernel
theorem d3_105 : decode prog_5_method_3_code 105 = .ok (.getfield 29, 3) := by decide +kernel
theorem d3_108 : decode prog_5_method_3_code 108 = .ok (.iload 9, 2) := by decide +kernel
theorem d3_110 : decode prog_5_method_3_code 110 = .ok (.invokestatic 59, 3) := by decide +kernel
theorem d3_113 : decode prog_5_method_3_code 113 = .ok (.putfield 29, 3) := by decide +kernel
theorem d3_116 : decode prog_5_method_3_code 116 = .ok (.aload_n 0, 1) := by decide +kernel
theorem d3_117 : decode prog_5_method_3_code 117 = .ok (.dup, 1) := by decide +kernel
theorem d3_118 : decode prog_5_method_3_code 118 = .ok (.getfield 43, 3) := by decide +kernel
theorem d3_121 : decode prog_5_method_3_code 121 = .ok (.dup_x1, 1) := by decide +kernel
theorem d3_122 : decode prog_5_method_3_code 122 = .ok (.iconst 1, 1) := by decide +kernel
theorem d3_123 : decode prog_5_method_3_code 123 = .ok (.iadd, 1) := by decide +kernel
theorem d3_124 : decode prog_5_method_3_code 124 = .ok (.putfield 43, 3) := by decide +kernel
theorem d3_127 : decode prog_5_method_3_code 127 = .ok (.istore 9, 2) := by decide +kernel
theorem d3_129 : decode prog_5_method_3_code 129 = .ok (.aload_n 0, 1) := by decide +kernel
theorem d3_130 : decode prog_5_method_3_code 130 = .ok (.getfield 7, 3) := by decide +kernel
theorem d3_133 : decode prog_5_method_3_code 133 = .ok (.iload 9, 2) := by decide +kernel
theorem d3_135 : decode prog_5_method_3_code 135 = .ok (.lload_n 1, 1) := by decide +kernel
theorem d3_136 : decode prog_5_method_3_code 136 = .ok (.lastore, 1) := by decide +kernel
theorem d3_137 : decode prog_5_method_3_code 137 = .ok (.aload_n 0, 1) := by decide +kernel
theorem d3_138 : decode prog_5_method_3_code 138 = .ok (.getfield 13, 3) := by decide +kernel
theorem d3_141 : decode prog_5_method_3_code 141 = .ok (.iload 9, 2) := by decide +kernel
theorem d3_143 : decode prog_5_method_3_code 143 = .ok (.lload_n 3, 1) := by decide +kernel
theorem d3_144 : decode prog_5_method_3_code 144 = .ok (.lastore, 1) := by decide +kernel
theorem d3_145 : decode prog_5_method_3_code 145 = .ok (.aload_n 0, 1) := by decide +kernel
theorem d3_146 : decode prog_5_method_3_code 146 = .ok (.getfield 16, 3) := by decide +kernel
theorem d3_149 : decode prog_5_method_3_code 149 = .ok (.iload 9, 2) := by decide +kernel
theorem d3_151 : decode prog_5_method_3_code 151 = .ok (.iload 5, 2) := by decide +kernel
theorem d3_153 : decode prog_5_method_3_code 153 = .ok (.iastore, 1) := by decide +kernel
theorem d3_154 : decode prog_5_method_3_code 154 = .ok (.aload_n 0, 1) := by decide +kernel
theorem d3_155 : decode prog_5_method_3_code 155 = .ok (.getfield 20, 3) := by decide +kernel
theorem d3_158 : decode prog_5_method_3_code 158 = .ok (.iload 9, 2) := by decide +kernel
theorem d3_160 : decode prog_5_method_3_code 160 = .ok (.iload 6, 2) := by decide +kernel
theorem d3_162 : decode prog_5_method_3_code 162 = .ok (.iastore, 1) := by decide +kernel
theorem d3_163 : decode prog_5_method_3_code 163 = .ok (.aload_n 0, 1) := by decide +kernel
theorem d3_164 : decode prog_5_method_3_code 164 = .ok (.getfield 23, 3) := by decide +kernel
theorem d3_167 : decode prog_5_method_3_code 167 = .ok (.iload 9, 2) := by decide +kernel
theorem d3_169 : decode prog_5_method_3_code 169 = .ok (.iload 7, 2) := by decide +kernel
theorem d3_171 : decode prog_5_method_3_code 171 = .ok (.iastore, 1) := by decide +kernel
theorem d3_172 : decode prog_5_method_3_code 172 = .ok (.aload_n 0, 1) := by decide +kernel
theorem d3_173 : decode prog_5_method_3_code 173 = .ok (.getfield 26, 3) := by decide +kernel
theorem d3_176 : decode prog_5_method_3_code 176 = .ok (.iload 9, 2) := by decide +kernel
theorem d3_178 : decode prog_5_method_3_code 178 = .ok (.iconst 0, 1) := by decide +kernel
theorem d3_179 : decode prog_5_method_3_code 179 = .ok (.iastore, 1) := by decide +kernel
theorem d3_180 : decode prog_5_method_3_code 180 = .ok (.aload_n 0, 1) := by decide +kernel
theorem d3_181 : decode prog_5_method_3_code 181 = .ok (.getfield 29, 3) := by decide +kernel
theorem d3_184 : decode prog_5_method_3_code 184 = .ok (.iload 9, 2) := by decide +kernel
theorem d3_186 : decode prog_5_method_3_code 186 = .ok (.iload 8, 2) := by decide +kernel
theorem d3_188 : decode prog_5_method_3_code 188 = .ok (.iconst 1, 1) := by decide +kernel
theorem d3_189 : decode prog_5_method_3_code 189 = .ok (.isub, 1) := by decide +kernel
theorem d3_190 : decode prog_5_method_3_code 190 = .ok (.iastore, 1) := by decide +kernel
theorem d3_191 : decode prog_5_method_3_code 191 = .ok (.iload 9, 2) := by decide +kernel
theorem d3_193 : decode prog_5_method_3_code 193 = .ok (.ireturn, 1) := by decide +kernel
theorem pn_3 : plainName "com/example/quorumstone/quorumstone/check/Frames" = true := by first | (simp [plainName, overriddenIn]; done) | decide +kernel
theorem ef_3 (m : MethodId) (r0 : Addr) (q1 : Int64) (q2 : Int64) (p3 : Int32) (p4 : Int32) (p5 : Int32) (p6 : Int32) : entryFrame m #[(.ref r0), (.long q1), (.long q2), (.int p3), (.int p4), (.int p5), (.int p6)] 10 = mkF m 0 #[.val (.ref r0), .val (.long q1), .second, .val (.long q2), .second, .val (.int p3), .val (.int p4), .val (.int p5), .val (.int p6), .unset] [] := by first | (simp [entryFrame, mkF, argsToLocals, Value.category]; done) | rfl
abbrev Q3a (Z : State) (r0 : Addr) (q1 : Int64) (q2 : Int64) (p3 : Int32) (p4 : Int32) (p5 : Int32) (p6 : Int32) (h0 : Heap) (n0 : Nat) (v : Option Value) (h : Heap) (L : List Loc) : Prop := v = some (.int (0 : Int32)) ∧ Fr n0 L ∧ h0.size ≤ h.size ∧ FrS Z h r0 (64 : Int32) (1 : Int32) [(.long q1), (.long (0 : Int64))] [(.long q2), (.long (0 : Int64))] [(.int p3), (.int (0 : Int32))] [(.int p4), (.int (0 : Int32))] [(.int p5), (.int (0 : Int32))] [(.int (0 : Int32)), (.int (0 : Int32))] [(.int (p6 - (1 : Int32))), (.int (0 : Int32))]
set_option maxRecDepth 65536 in
set_option maxHeartbeats 40000000 in
theorem rm3a (l : Launch) (Z : State) (a0 : Array Value) (hw : ∀ d ∈ tables_1, d.before a0 Z = true) (ws : List Jvm.Cond) (r0 : Addr) (q1 : Int64) (q2 : Int64) (p3 : Int32) (p4 : Int32) (p5 : Int32) (p6 : Int32) (h0 : Heap) (n0 : Nat) (Z0 : n0 ≤ h0.size) (O0 : FrS Z h0 r0 (0 : Int32) (0 : Int32) [] [] [] [] [] [] []) (g_r0 : n0 ≤ r0) :
    MetFree l (⟨"com/example/quorumstone/quorumstone/check/Frames", "push", "(JJIIII)I"⟩ : MethodName) (head1 (Jvm.Cond.code (⟨"com/example/quorumstone/quorumstone/check/Frames", "push", "(JJIIII)I"⟩ : MethodName) prog_5_method_3_code 10 (some .int) :: ws) ({ frames := 2, cells := 7, slots := 448, locals := 33 } : Room)) (fun a U => a = #[(.ref r0), (.long q1), (.long q2), (.int p3), (.int p4), (.int p5), (.int p6)] ∧ Z.Warmed39 U.vm ∧ U.heap = h0) (fun _ _ _ _ _ => True) (fun _ U o U' => ∃ v L, o = .returned v ∧ Q3a Z r0 q1 q2 p3 p4 p5 p6 h0 n0 v U'.heap L ∧ FrameEnd U o U' L 7 448) := by
  refine MetFree.of_bodySF (plainFor_of_name pn_3) hisR ?_
  intro p ev s m args below meth c s₁ Bd hml0 hP hK
  obtain ⟨rfl, hZ, hh⟩ := hP
  have hx := Bd.exec
  have hby := Bd.bytes
  have hml : c.maxLocals = 10 := hml0
  have hown : s.vm.findClass "com/example/quorumstone/quorumstone/check/Frames" = some m.cls := findClass_of_methodNamed Bd.named
  have hnm := (name_of_methodNamed Bd.named Bd.method).1
  have X0 : Stand p l ev ({ frames := 2, cells := 7, slots := 448, locals := 33 } : Room) s m #[(.ref r0), (.long q1), (.long q2), (.int p3), (.int p4), (.int p5), (.int p6)] below meth c s₁ [] 0 0 := Stand.of_body Bd
  have eh0 : s₁.heap = h0 := by rw [← hh, Bd.state]; rfl
  have N0 := Fr.nil n0
  have Zs := Z0
  show Gol p ev below (FrameEnd s) (Q3a Z r0 q1 q2 p3 p4 p5 p6 h0 n0) 7 448 (s₁.setTop (entryFrame m #[(.ref r0), (.long q1), (.long q2), (.int p3), (.int p4), (.int p5), (.int p6)] 10))
  rw [ef_3]
  obtain ⟨d, t, bc, fi, sp, nx, la, kd, kt, kbc, kfi, ksp, knx, kla, v7, v8, O1, V_d, V_t, V_bc, V_fi, V_sp, V_nx, V_la, lo_r0_d, lo_d_t, lo_t_bc, lo_bc_fi, lo_fi_sp, lo_sp_nx, lo_nx_la⟩ := O0
  obtain ⟨E_r0, F_r0_decided, F_r0_taken, F_r0_branchClass, F_r0_first, F_r0_step, F_r0_next, F_r0_last, F_r0_classServers, F_r0_allClasses, F_r0_depth⟩ := O1
  have ne_r0_d : r0 ≠ d := Nat.ne_of_lt lo_r0_d
  have lo_r0_t := Nat.lt_trans lo_r0_d lo_d_t
  have ne_r0_t : r0 ≠ t := Nat.ne_of_lt lo_r0_t
  have ne_d_t : d ≠ t := Nat.ne_of_lt lo_d_t
  have lo_r0_bc := Nat.lt_trans lo_r0_t lo_t_bc
  have ne_r0_bc : r0 ≠ bc := Nat.ne_of_lt lo_r0_bc
  have lo_d_bc := Nat.lt_trans lo_d_t lo_t_bc
  have ne_d_bc : d ≠ bc := Nat.ne_of_lt lo_d_bc
  have ne_t_bc : t ≠ bc := Nat.ne_of_lt lo_t_bc
  have lo_r0_fi := Nat.lt_trans lo_r0_bc lo_bc_fi
  have ne_r0_fi : r0 ≠ fi := Nat.ne_of_lt lo_r0_fi
  have lo_d_fi := Nat.lt_trans lo_d_bc lo_bc_fi
  have ne_d_fi : d ≠ fi := Nat.ne_of_lt lo_d_fi
  have lo_t_fi := Nat.lt_trans lo_t_bc lo_bc_fi
  have ne_t_fi : t ≠ fi := Nat.ne_of_lt lo_t_fi
  have ne_bc_fi : bc ≠ fi := Nat.ne_of_lt lo_bc_fi
  have lo_r0_sp := Nat.lt_trans lo_r0_fi lo_fi_sp
  have ne_r0_sp : r0 ≠ sp := Nat.ne_of_lt lo_r0_sp
  have lo_d_sp := Nat.lt_trans lo_d_fi lo_fi_sp
  have ne_d_sp : d ≠ sp := Nat.ne_of_lt lo_d_sp
  have lo_t_sp := Nat.lt_trans lo_t_fi lo_fi_sp
  have ne_t_sp : t ≠ sp := Nat.ne_of_lt lo_t_sp
  have lo_bc_sp := Nat.lt_trans lo_bc_fi lo_fi_sp
  have ne_bc_sp : bc ≠ sp := Nat.ne_of_lt lo_bc_sp
  have ne_fi_sp : fi ≠ sp := Nat.ne_of_lt lo_fi_sp
  have lo_r0_nx := Nat.lt_trans lo_r0_sp lo_sp_nx
  have ne_r0_nx : r0 ≠ nx := Nat.ne_of_lt lo_r0_nx
  have lo_d_nx := Nat.lt_trans lo_d_sp lo_sp_nx
  have ne_d_nx : d ≠ nx := Nat.ne_of_lt lo_d_nx
  have lo_t_nx := Nat.lt_trans lo_t_sp lo_sp_nx
  have ne_t_nx : t ≠ nx := Nat.ne_of_lt lo_t_nx
  have lo_bc_nx := Nat.lt_trans lo_bc_sp lo_sp_nx
  have ne_bc_nx : bc ≠ nx := Nat.ne_of_lt lo_bc_nx
  have lo_fi_nx := Nat.lt_trans lo_fi_sp lo_sp_nx
  have ne_fi_nx : fi ≠ nx := Nat.ne_of_lt lo_fi_nx
  have ne_sp_nx : sp ≠ nx := Nat.ne_of_lt lo_sp_nx
  have lo_r0_la := Nat.lt_trans lo_r0_nx lo_nx_la
  have ne_r0_la : r0 ≠ la := Nat.ne_of_lt lo_r0_la
  have lo_d_la := Nat.lt_trans lo_d_nx lo_nx_la
  have ne_d_la : d ≠ la := Nat.ne_of_lt lo_d_la
  have lo_t_la := Nat.lt_trans lo_t_nx lo_nx_la
  have ne_t_la : t ≠ la := Nat.ne_of_lt lo_t_la
  have lo_bc_la := Nat.lt_trans lo_bc_nx lo_nx_la
  have ne_bc_la : bc ≠ la := Nat.ne_of_lt lo_bc_la
  have lo_fi_la := Nat.lt_trans lo_fi_nx lo_nx_la
  have ne_fi_la : fi ≠ la := Nat.ne_of_lt lo_fi_la
  have lo_sp_la := Nat.lt_trans lo_sp_nx lo_nx_la
  have ne_sp_la : sp ≠ la := Nat.ne_of_lt lo_sp_la
  have ne_nx_la : nx ≠ la := Nat.ne_of_lt lo_nx_la
  have g_d : n0 ≤ d := Nat.le_trans g_r0 (Nat.le_of_lt lo_r0_d)
  have g_t : n0 ≤ t := Nat.le_trans g_r0 (Nat.le_of_lt lo_r0_t)
  have g_bc : n0 ≤ bc := Nat.le_trans g_r0 (Nat.le_of_lt lo_r0_bc)
  have g_fi : n0 ≤ fi := Nat.le_trans g_r0 (Nat.le_of_lt lo_r0_fi)
  have g_sp : n0 ≤ sp := Nat.le_trans g_r0 (Nat.le_of_lt lo_r0_sp)
  have g_nx : n0 ≤ nx := Nat.le_trans g_r0 (Nat.le_of_lt lo_r0_nx)
  have g_la : n0 ≤ la := Nat.le_trans g_r0 (Nat.le_of_lt lo_r0_la)
  have K := Keep.refl h0 [r0]
  show GolF _ _ _ _ _ _ _ s₁ m 0 #[.val (.ref r0), .val (.long q1), .second, .val (.long q2), .second, .val (.int p3), .val (.int p4), .val (.int p5), .val (.int p6), .unset] []
  refine Gol.aloadN X0 hx hby d3_0 (pc' := 1) rfl rfl rfl ?_
  refine Gol.getF X0 hx hby hZ hown (host := "") (Or.inl (hw _ (List.mem_of_getElem? (i := 34) rfl))) Via.refl eh0 F_r0_depth d3_1 (pc' := 4) rfl ?_
  intro T1 X1 e1
  refine Gol.aloadN X1 hx hby d3_4 (pc' := 5) rfl rfl rfl ?_
  refine Gol.getF X1 hx hby hZ hown (host := "") (Or.inl (hw _ (List.mem_of_getElem? (i := 21) rfl))) Via.refl e1 F_r0_next d3_5 (pc' := 8) rfl ?_
  intro T2 X2 e2
  refine Gol.alen X2 hx hby hZ e2 V_nx d3_8 (pc' := 9) rfl ?_
  refine Gol.icmpNo X2 hx hby d3_9 (pc' := 12) rfl (teq (by decide : (0 : Int32) = (0 : Int32))).2 ?_
  refine Gol.bipush X2 hx hby d3_12 (pc' := 14) rfl (z := (64 : Int32)) rfl ?_
  refine Gol.iconst X2 hx hby d3_14 (pc' := 15) rfl (z := (2 : Int32)) rfl ?_
  refine Gol.aloadN X2 hx hby d3_15 (pc' := 16) rfl rfl rfl ?_
  refine Gol.getF X2 hx hby hZ hown (host := "") (Or.inl (hw _ (List.mem_of_getElem? (i := 34) rfl))) Via.refl e2 F_r0_depth d3_16 (pc' := 19) rfl ?_
  intro T3 X3 e3
  refine Gol.imul X3 hx hby d3_19 (pc' := 20) rfl (z := (0 : Int32)) rfl ?_
  refine Gol.callS X3 hx hby hZ hown 0 [(.int (64 : Int32)), (.int (0 : Int32))] (hw _ (List.mem_of_getElem? (i := 36) rfl)) (hw _ (List.mem_of_getElem? (i := 37) rfl)) (hw _ (List.mem_of_getElem? (i := 38) rfl)) (hw _ (List.mem_of_getElem? (i := 39) rfl)) (by decide) (rm4 l Z a0 hw [] (64 : Int32) (0 : Int32)  h0 n0 Zs ) (by decide) (by decide) e3 (by rw [hml]; rfl) (rest := []) (Nat.le_of_eq rfl) (by decide) (by decide) (lenOf pd_0 rfl) rfl d3_20 (pc' := 23) rfl ?_
  intro T4 v4 L4 X4 hQ4
  obtain ⟨rfl, Nq4, eq4⟩ := hQ4
  have N4 := Fr.app N0 Nq4
  show GolF _ _ _ _ _ _ _ T4 m 23 #[.val (.ref r0), .val (.long q1), .second, .val (.long q2), .second, .val (.int p3), .val (.int p4), .val (.int p5), .val (.int p6), .unset] [(.int (f4 (64 : Int32) (0 : Int32) ))]
  show GolF _ _ _ _ _ _ _ T4 m 23 #[.val (.ref r0), .val (.long q1), .second, .val (.long q2), .second, .val (.int p3), .val (.int p4), .val (.int p5), .val (.int p6), .unset] [(.int (64 : Int32))]
  refine Gol.istore X4 hx hby d3_23 (pc' := 25) rfl (l' := #[.val (.ref r0), .val (.long q1), .second, .val (.long q2), .second, .val (.int p3), .val (.int p4), .val (.int p5), .val (.int p6), .val (.int (64 : Int32))]) rfl ?_
  refine Gol.aloadN X4 hx hby d3_25 (pc' := 26) rfl rfl rfl ?_
  refine Gol.aloadN X4 hx hby d3_26 (pc' := 27) rfl rfl rfl ?_
  refine Gol.getF X4 hx hby hZ hown (host := "") (Or.inl (hw _ (List.mem_of_getElem? (i := 10) rfl))) Via.refl eq4 F_r0_decided d3_27 (pc' := 30) rfl ?_
  intro T5 X5 e5
  refine Gol.iload X5 hx hby d3_30 (pc' := 32) rfl rfl ?_
  refine Gol.callS X5 hx hby hZ hown 1 [(.ref d), (.int (64 : Int32))] (hw _ (List.mem_of_getElem? (i := 40) rfl)) (hw _ (List.mem_of_getElem? (i := 41) rfl)) (hw _ (List.mem_of_getElem? (i := 42) rfl)) (hw _ (List.mem_of_getElem? (i := 43) rfl)) (by decide) (rm5 l Z a0 hw [] d (64 : Int32) kd h0 n0 Zs rfl V_d) (by decide) (by decide) e5 (by rw [hml]; rfl) (rest := [(.ref r0)]) (Nat.le_of_eq rfl) (by decide) (by decide) (lenOf pd_1 rfl) rfl d3_32 (pc' := 35) rfl ?_
  intro T6 v6 L6 X6 hQ6
  obtain ⟨b6, kb6, rfl, Nq6, Kq6, hb6, V_b6⟩ := hQ6
  have N6 := Fr.app N4 Nq6
  have lo_r0_b6 : r0 < b6 := Nat.lt_of_lt_of_le E_r0.lt hb6
  have ne_r0_b6 : r0 ≠ b6 := Nat.ne_of_lt lo_r0_b6
  have lo_d_b6 : d < b6 := Nat.lt_of_lt_of_le V_d.lt hb6
  have ne_d_b6 : d ≠ b6 := Nat.ne_of_lt lo_d_b6
  have lo_t_b6 : t < b6 := Nat.lt_of_lt_of_le V_t.lt hb6
  have ne_t_b6 : t ≠ b6 := Nat.ne_of_lt lo_t_b6
  have lo_bc_b6 : bc < b6 := Nat.lt_of_lt_of_le V_bc.lt hb6
  have ne_bc_b6 : bc ≠ b6 := Nat.ne_of_lt lo_bc_b6
  have lo_fi_b6 : fi < b6 := Nat.lt_of_lt_of_le V_fi.lt hb6
  have ne_fi_b6 : fi ≠ b6 := Nat.ne_of_lt lo_fi_b6
  have lo_sp_b6 : sp < b6 := Nat.lt_of_lt_of_le V_sp.lt hb6
  have ne_sp_b6 : sp ≠ b6 := Nat.ne_of_lt lo_sp_b6
  have lo_nx_b6 : nx < b6 := Nat.lt_of_lt_of_le V_nx.lt hb6
  have ne_nx_b6 : nx ≠ b6 := Nat.ne_of_lt lo_nx_b6
  have lo_la_b6 : la < b6 := Nat.lt_of_lt_of_le V_la.lt hb6
  have ne_la_b6 : la ≠ b6 := Nat.ne_of_lt lo_la_b6
  have g_b6 : n0 ≤ b6 := Nat.le_trans Zs hb6
  have sz_b6 : h0.size ≤ b6 := Nat.le_trans K.1 hb6
  have E_r0 := E_r0.keep Kq6
  have F_r0_decided := F_r0_decided.keep Kq6 nin0
  have F_r0_taken := F_r0_taken.keep Kq6 nin0
  have F_r0_branchClass := F_r0_branchClass.keep Kq6 nin0
  have F_r0_first := F_r0_first.keep Kq6 nin0
  have F_r0_step := F_r0_step.keep Kq6 nin0
  have F_r0_next := F_r0_next.keep Kq6 nin0
  have F_r0_last := F_r0_last.keep Kq6 nin0
  have F_r0_classServers := F_r0_classServers.keep Kq6 nin0
  have F_r0_allClasses := F_r0_allClasses.keep Kq6 nin0
  have F_r0_depth := F_r0_depth.keep Kq6 nin0
  have V_d := V_d.keep Kq6 nin0
  have V_t := V_t.keep Kq6 nin0
  have V_bc := V_bc.keep Kq6 nin0
  have V_fi := V_fi.keep Kq6 nin0
  have V_sp := V_sp.keep Kq6 nin0
  have V_nx := V_nx.keep Kq6 nin0
  have V_la := V_la.keep Kq6 nin0
  have K := K.trans Kq6 all0
  have Zs := Nat.le_trans Zs Kq6.1
  show GolF _ _ _ _ _ _ _ T6 m 35 #[.val (.ref r0), .val (.long q1), .second, .val (.long q2), .second, .val (.int p3), .val (.int p4), .val (.int p5), .val (.int p6), .val (.int (64 : Int32))] [(.ref b6), (.ref r0)]
  refine Gol.putF X6 hx hby hZ hown (host := "") (Or.inl (hw _ (List.mem_of_getElem? (i := 10) rfl))) Via.refl rfl F_r0_decided E_r0 (Or.inl (hw _ (List.mem_of_getElem? (i := 11) rfl))) (hw _ (List.mem_of_getElem? (i := 1) rfl)) (ty := (.array .long)) (by decide) rfl rfl d3_35 (pc' := 38) rfl ?_
  intro T7 h7 X7 e7 W7
  have E_r0 := E_r0.wr W7
  have F_r0_decided := F_r0_decided.same W7
  have F_r0_taken := F_r0_taken.other W7 (Or.inr (slot_ne (Or.inl (hw _ (List.mem_of_getElem? (i := 13) rfl))) (Or.inl (hw _ (List.mem_of_getElem? (i := 11) rfl))) (by decide) (t := (.array .long)) (t' := (.array .long)) (by decide) (by decide)))
  have F_r0_branchClass := F_r0_branchClass.other W7 (Or.inr (slot_ne (Or.inl (hw _ (List.mem_of_getElem? (i := 16) rfl))) (Or.inl (hw _ (List.mem_of_getElem? (i := 11) rfl))) (by decide) (t := (.array .int)) (t' := (.array .long)) (by decide) (by decide)))
  have F_r0_first := F_r0_first.other W7 (Or.inr (slot_ne (Or.inl (hw _ (List.mem_of_getElem? (i := 18) rfl))) (Or.inl (hw _ (List.mem_of_getElem? (i := 11) rfl))) (by decide) (t := (.array .int)) (t' := (.array .long)) (by decide) (by decide)))
  have F_r0_step := F_r0_step.other W7 (Or.inr (slot_ne (Or.inl (hw _ (List.mem_of_getElem? (i := 20) rfl))) (Or.inl (hw _ (List.mem_of_getElem? (i := 11) rfl))) (by decide) (t := (.array .int)) (t' := (.array .long)) (by decide) (by decide)))
  have F_r0_next := F_r0_next.other W7 (Or.inr (slot_ne (Or.inl (hw _ (List.mem_of_getElem? (i := 22) rfl))) (Or.inl (hw _ (List.mem_of_getElem? (i := 11) rfl))) (by decide) (t := (.array .int)) (t' := (.array .long)) (by decide) (by decide)))
  have F_r0_last := F_r0_last.other W7 (Or.inr (slot_ne (Or.inl (hw _ (List.mem_of_getElem? (i := 24) rfl))) (Or.inl (hw _ (List.mem_of_getElem? (i := 11) rfl))) (by decide) (t := (.array .int)) (t' := (.array .long)) (by decide) (by decide)))
  have F_r0_classServers := F_r0_classServers.other W7 (Or.inr (slot_ne (Or.inr (hw _ (List.mem_of_getElem? (i := 26) rfl))) (Or.inl (hw _ (List.mem_of_getElem? (i := 11) rfl))) (by decide) (t := (.array .long)) (t' := (.array .long)) (by decide) (by decide)))
  have F_r0_allClasses := F_r0_allClasses.other W7 (Or.inr (slot_ne (Or.inr (hw _ (List.mem_of_getElem? (i := 28) rfl))) (Or.inl (hw _ (List.mem_of_getElem? (i := 11) rfl))) (by decide) (t := .long) (t' := (.array .long)) (by decide) (by decide)))
  have F_r0_depth := F_r0_depth.other W7 (Or.inr (slot_ne (Or.inl (hw _ (List.mem_of_getElem? (i := 35) rfl))) (Or.inl (hw _ (List.mem_of_getElem? (i := 11) rfl))) (by decide) (t := .int) (t' := (.array .long)) (by decide) (by decide)))
  have V_d := V_d.other W7 ne_r0_d.symm
  have V_t := V_t.other W7 ne_r0_t.symm
  have V_bc := V_bc.other W7 ne_r0_bc.symm
  have V_fi := V_fi.other W7 ne_r0_fi.symm
  have V_sp := V_sp.other W7 ne_r0_sp.symm
  have V_nx := V_nx.other W7 ne_r0_nx.symm
  have V_la := V_la.other W7 ne_r0_la.symm
  have V_b6 := V_b6.other W7 ne_r0_b6.symm
  have K := K.wr W7 (Or.inl (List.mem_of_getElem? (i := 0) rfl))
  have Zs := Nat.le_trans Zs (Keep.of_wr W7).1
  have N7 := Fr.snoc X7 N6 g_r0
  refine Gol.aloadN X7 hx hby d3_38 (pc' := 39) rfl rfl rfl ?_
  refine Gol.aloadN X7 hx hby d3_39 (pc' := 40) rfl rfl rfl ?_
  refine Gol.getF X7 hx hby hZ hown (host := "") (Or.inl (hw _ (List.mem_of_getElem? (i := 12) rfl))) Via.refl e7 F_r0_taken d3_40 (pc' := 43) rfl ?_
  intro T8 X8 e8
  refine Gol.iload X8 hx hby d3_43 (pc' := 45) rfl rfl ?_
  refine Gol.callS X8 hx hby hZ hown 1 [(.ref t), (.int (64 : Int32))] (hw _ (List.mem_of_getElem? (i := 40) rfl)) (hw _ (List.mem_of_getElem? (i := 41) rfl)) (hw _ (List.mem_of_getElem? (i := 42) rfl)) (hw _ (List.mem_of_getElem? (i := 43) rfl)) (by decide) (rm5 l Z a0 hw [] t (64 : Int32) kt h7 n0 Zs rfl V_t) (by decide) (by decide) e8 (by rw [hml]; rfl) (rest := [(.ref r0)]) (Nat.le_of_eq rfl) (by decide) (by decide) (lenOf pd_1 rfl) rfl d3_45 (pc' := 48) rfl ?_
  intro T9 v9 L9 X9 hQ9
  obtain ⟨b9, kb9, rfl, Nq9, Kq9, hb9, V_b9⟩ := hQ9
  have N9 := Fr.app N7 Nq9
  have lo_r0_b9 : r0 < b9 := Nat.lt_of_lt_of_le E_r0.lt hb9
  have ne_r0_b9 : r0 ≠ b9 := Nat.ne_of_lt lo_r0_b9
  have lo_d_b9 : d < b9 := Nat.lt_of_lt_of_le V_d.lt hb9
  have ne_d_b9 : d ≠ b9 := Nat.ne_of_lt lo_d_b9
  have lo_t_b9 : t < b9 := Nat.lt_of_lt_of_le V_t.lt hb9
  have ne_t_b9 : t ≠ b9 := Nat.ne_of_lt lo_t_b9
  have lo_bc_b9 : bc < b9 := Nat.lt_of_lt_of_le V_bc.lt hb9
  have ne_bc_b9 : bc ≠ b9 := Nat.ne_of_lt lo_bc_b9
  have lo_fi_b9 : fi < b9 := Nat.lt_of_lt_of_le V_fi.lt hb9
  have ne_fi_b9 : fi ≠ b9 := Nat.ne_of_lt lo_fi_b9
  have lo_sp_b9 : sp < b9 := Nat.lt_of_lt_of_le V_sp.lt hb9
  have ne_sp_b9 : sp ≠ b9 := Nat.ne_of_lt lo_sp_b9
  have lo_nx_b9 : nx < b9 := Nat.lt_of_lt_of_le V_nx.lt hb9
  have ne_nx_b9 : nx ≠ b9 := Nat.ne_of_lt lo_nx_b9
  have lo_la_b9 : la < b9 := Nat.lt_of_lt_of_le V_la.lt hb9
  have ne_la_b9 : la ≠ b9 := Nat.ne_of_lt lo_la_b9
  have lo_b6_b9 : b6 < b9 := Nat.lt_of_lt_of_le V_b6.lt hb9
  have ne_b6_b9 : b6 ≠ b9 := Nat.ne_of_lt lo_b6_b9
  have g_b9 : n0 ≤ b9 := Nat.le_trans Zs hb9
  have sz_b9 : h0.size ≤ b9 := Nat.le_trans K.1 hb9
  have E_r0 := E_r0.keep Kq9
  have F_r0_decided := F_r0_decided.keep Kq9 nin0
  have F_r0_taken := F_r0_taken.keep Kq9 nin0
  have F_r0_branchClass := F_r0_branchClass.keep Kq9 nin0
  have F_r0_first := F_r0_first.keep Kq9 nin0
  have F_r0_step := F_r0_step.keep Kq9 nin0
  have F_r0_next := F_r0_next.keep Kq9 nin0
  have F_r0_last := F_r0_last.keep Kq9 nin0
  have F_r0_classServers := F_r0_classServers.keep Kq9 nin0
  have F_r0_allClasses := F_r0_allClasses.keep Kq9 nin0
  have F_r0_depth := F_r0_depth.keep Kq9 nin0
  have V_d := V_d.keep Kq9 nin0
  have V_t := V_t.keep Kq9 nin0
  have V_bc := V_bc.keep Kq9 nin0
  have V_fi := V_fi.keep Kq9 nin0
  have V_sp := V_sp.keep Kq9 nin0
  have V_nx := V_nx.keep Kq9 nin0
  have V_la := V_la.keep Kq9 nin0
  have V_b6 := V_b6.keep Kq9 nin0
  have K := K.trans Kq9 all0
  have Zs := Nat.le_trans Zs Kq9.1
  show GolF _ _ _ _ _ _ _ T9 m 48 #[.val (.ref r0), .val (.long q1), .second, .val (.long q2), .second, .val (.int p3), .val (.int p4), .val (.int p5), .val (.int p6), .val (.int (64 : Int32))] [(.ref b9), (.ref r0)]
  refine Gol.putF X9 hx hby hZ hown (host := "") (Or.inl (hw _ (List.mem_of_getElem? (i := 12) rfl))) Via.refl rfl F_r0_taken E_r0 (Or.inl (hw _ (List.mem_of_getElem? (i := 13) rfl))) (hw _ (List.mem_of_getElem? (i := 1) rfl)) (ty := (.array .long)) (by decide) rfl rfl d3_48 (pc' := 51) rfl ?_
  intro T10 h10 X10 e10 W10
  have E_r0 := E_r0.wr W10
  have F_r0_decided := F_r0_decided.other W10 (Or.inr (slot_ne (Or.inl (hw _ (List.mem_of_getElem? (i := 11) rfl))) (Or.inl (hw _ (List.mem_of_getElem? (i := 13) rfl))) (by decide) (t := (.array .long)) (t' := (.array .long)) (by decide) (by decide)))
  have F_r0_taken := F_r0_taken.same W10
  have F_r0_branchClass := F_r0_branchClass.other W10 (Or.inr (slot_ne (Or.inl (hw _ (List.mem_of_getElem? (i := 16) rfl))) (Or.inl (hw _ (List.mem_of_getElem? (i := 13) rfl))) (by decide) (t := (.array .int)) (t' := (.array .long)) (by decide) (by decide)))
  have F_r0_first := F_r0_first.other W10 (Or.inr (slot_ne (Or.inl (hw _ (List.mem_of_getElem? (i := 18) rfl))) (Or.inl (hw _ (List.mem_of_getElem? (i := 13) rfl))) (by decide) (t := (.array .int)) (t' := (.array .long)) (by decide) (by decide)))
  have F_r0_step := F_r0_step.other W10 (Or.inr (slot_ne (Or.inl (hw _ (List.mem_of_getElem? (i := 20) rfl))) (Or.inl (hw _ (List.mem_of_getElem? (i := 13) rfl))) (by decide) (t := (.array .int)) (t' := (.array .long)) (by decide) (by decide)))
  have F_r0_next := F_r0_next.other W10 (Or.inr (slot_ne (Or.inl (hw _ (List.mem_of_getElem? (i := 22) rfl))) (Or.inl (hw _ (List.mem_of_getElem? (i := 13) rfl))) (by decide) (t := (.array .int)) (t' := (.array .long)) (by decide) (by decide)))
  have F_r0_last := F_r0_last.other W10 (Or.inr (slot_ne (Or.inl (hw _ (List.mem_of_getElem? (i := 24) rfl))) (Or.inl (hw _ (List.mem_of_getElem? (i := 13) rfl))) (by decide) (t := (.array .int)) (t' := (.array .long)) (by decide) (by decide)))
  have F_r0_classServers := F_r0_classServers.other W10 (Or.inr (slot_ne (Or.inr (hw _ (List.mem_of_getElem? (i := 26) rfl))) (Or.inl (hw _ (List.mem_of_getElem? (i := 13) rfl))) (by decide) (t := (.array .long)) (t' := (.array .long)) (by decide) (by decide)))
  have F_r0_allClasses := F_r0_allClasses.other W10 (Or.inr (slot_ne (Or.inr (hw _ (List.mem_of_getElem? (i := 28) rfl))) (Or.inl (hw _ (List.mem_of_getElem? (i := 13) rfl))) (by decide) (t := .long) (t' := (.array .long)) (by decide) (by decide)))
  have F_r0_depth := F_r0_depth.other W10 (Or.inr (slot_ne (Or.inl (hw _ (List.mem_of_getElem? (i := 35) rfl))) (Or.inl (hw _ (List.mem_of_getElem? (i := 13) rfl))) (by decide) (t := .int) (t' := (.array .long)) (by decide) (by decide)))
  have V_d := V_d.other W10 ne_r0_d.symm
  have V_t := V_t.other W10 ne_r0_t.symm
  have V_bc := V_bc.other W10 ne_r0_bc.symm
  have V_fi := V_fi.other W10 ne_r0_fi.symm
  have V_sp := V_sp.other W10 ne_r0_sp.symm
  have V_nx := V_nx.other W10 ne_r0_nx.symm
  have V_la := V_la.other W10 ne_r0_la.symm
  have V_b6 := V_b6.other W10 ne_r0_b6.symm
  have V_b9 := V_b9.other W10 ne_r0_b9.symm
  have K := K.wr W10 (Or.inl (List.mem_of_getElem? (i := 0) rfl))
  have Zs := Nat.le_trans Zs (Keep.of_wr W10).1
  have N10 := Fr.snoc X10 N9 g_r0
  refine Gol.aloadN X10 hx hby d3_51 (pc' := 52) rfl rfl rfl ?_
  refine Gol.aloadN X10 hx hby d3_52 (pc' := 53) rfl rfl rfl ?_
  refine Gol.getF X10 hx hby hZ hown (host := "") (Or.inl (hw _ (List.mem_of_getElem? (i := 15) rfl))) Via.refl e10 F_r0_branchClass d3_53 (pc' := 56) rfl ?_
  intro T11 X11 e11
  refine Gol.iload X11 hx hby d3_56 (pc' := 58) rfl rfl ?_
  refine Gol.callS X11 hx hby hZ hown 1 [(.ref bc), (.int (64 : Int32))] (hw _ (List.mem_of_getElem? (i := 51) rfl)) (hw _ (List.mem_of_getElem? (i := 52) rfl)) (hw _ (List.mem_of_getElem? (i := 42) rfl)) (hw _ (List.mem_of_getElem? (i := 53) rfl)) (by decide) (rm7 l Z a0 hw [] bc (64 : Int32) kbc h10 n0 Zs rfl V_bc) (by decide) (by decide) e11 (by rw [hml]; rfl) (rest := [(.ref r0)]) (Nat.le_of_eq rfl) (by decide) (by decide) (lenOf pd_2 rfl) rfl d3_58 (pc' := 61) rfl ?_
  intro T12 v12 L12 X12 hQ12
  obtain ⟨b12, kb12, rfl, Nq12, Kq12, hb12, V_b12⟩ := hQ12
  have N12 := Fr.app N10 Nq12
  have lo_r0_b12 : r0 < b12 := Nat.lt_of_lt_of_le E_r0.lt hb12
  have ne_r0_b12 : r0 ≠ b12 := Nat.ne_of_lt lo_r0_b12
  have lo_d_b12 : d < b12 := Nat.lt_of_lt_of_le V_d.lt hb12
  have ne_d_b12 : d ≠ b12 := Nat.ne_of_lt lo_d_b12
  have lo_t_b12 : t < b12 := Nat.lt_of_lt_of_le V_t.lt hb12
  have ne_t_b12 : t ≠ b12 := Nat.ne_of_lt lo_t_b12
  have lo_bc_b12 : bc < b12 := Nat.lt_of_lt_of_le V_bc.lt hb12
  have ne_bc_b12 : bc ≠ b12 := Nat.ne_of_lt lo_bc_b12
  have lo_fi_b12 : fi < b12 := Nat.lt_of_lt_of_le V_fi.lt hb12
  have ne_fi_b12 : fi ≠ b12 := Nat.ne_of_lt lo_fi_b12
  have lo_sp_b12 : sp < b12 := Nat.lt_of_lt_of_le V_sp.lt hb12
  have ne_sp_b12 : sp ≠ b12 := Nat.ne_of_lt lo_sp_b12
  have lo_nx_b12 : nx < b12 := Nat.lt_of_lt_of_le V_nx.lt hb12
  have ne_nx_b12 : nx ≠ b12 := Nat.ne_of_lt lo_nx_b12
  have lo_la_b12 : la < b12 := Nat.lt_of_lt_of_le V_la.lt hb12
  have ne_la_b12 : la ≠ b12 := Nat.ne_of_lt lo_la_b12
  have lo_b6_b12 : b6 < b12 := Nat.lt_of_lt_of_le V_b6.lt hb12
  have ne_b6_b12 : b6 ≠ b12 := Nat.ne_of_lt lo_b6_b12
  have lo_b9_b12 : b9 < b12 := Nat.lt_of_lt_of_le V_b9.lt hb12
  have ne_b9_b12 : b9 ≠ b12 := Nat.ne_of_lt lo_b9_b12
  have g_b12 : n0 ≤ b12 := Nat.le_trans Zs hb12
  have sz_b12 : h0.size ≤ b12 := Nat.le_trans K.1 hb12
  have E_r0 := E_r0.keep Kq12
  have F_r0_decided := F_r0_decided.keep Kq12 nin0
  have F_r0_taken := F_r0_taken.keep Kq12 nin0
  have F_r0_branchClass := F_r0_branchClass.keep Kq12 nin0
  have F_r0_first := F_r0_first.keep Kq12 nin0
  have F_r0_step := F_r0_step.keep Kq12 nin0
  have F_r0_next := F_r0_next.keep Kq12 nin0
  have F_r0_last := F_r0_last.keep Kq12 nin0
  have F_r0_classServers := F_r0_classServers.keep Kq12 nin0
  have F_r0_allClasses := F_r0_allClasses.keep Kq12 nin0
  have F_r0_depth := F_r0_depth.keep Kq12 nin0
  have V_d := V_d.keep Kq12 nin0
  have V_t := V_t.keep Kq12 nin0
  have V_bc := V_bc.keep Kq12 nin0
  have V_fi := V_fi.keep Kq12 nin0
  have V_sp := V_sp.keep Kq12 nin0
  have V_nx := V_nx.keep Kq12 nin0
  have V_la := V_la.keep Kq12 nin0
  have V_b6 := V_b6.keep Kq12 nin0
  have V_b9 := V_b9.keep Kq12 nin0
  have K := K.trans Kq12 all0
  have Zs := Nat.le_trans Zs Kq12.1
  show GolF _ _ _ _ _ _ _ T12 m 61 #[.val (.ref r0), .val (.long q1), .second, .val (.long q2), .second, .val (.int p3), .val (.int p4), .val (.int p5), .val (.int p6), .val (.int (64 : Int32))] [(.ref b12), (.ref r0)]
  refine Gol.putF X12 hx hby hZ hown (host := "") (Or.inl (hw _ (List.mem_of_getElem? (i := 15) rfl))) Via.refl rfl F_r0_branchClass E_r0 (Or.inl (hw _ (List.mem_of_getElem? (i := 16) rfl))) (hw _ (List.mem_of_getElem? (i := 1) rfl)) (ty := (.array .int)) (by decide) rfl rfl d3_61 (pc' := 64) rfl ?_
  intro T13 h13 X13 e13 W13
  have E_r0 := E_r0.wr W13
  have F_r0_decided := F_r0_decided.other W13 (Or.inr (slot_ne (Or.inl (hw _ (List.mem_of_getElem? (i := 11) rfl))) (Or.inl (hw _ (List.mem_of_getElem? (i := 16) rfl))) (by decide) (t := (.array .long)) (t' := (.array .int)) (by decide) (by decide)))
  have F_r0_taken := F_r0_taken.other W13 (Or.inr (slot_ne (Or.inl (hw _ (List.mem_of_getElem? (i := 13) rfl))) (Or.inl (hw _ (List.mem_of_getElem? (i := 16) rfl))) (by decide) (t := (.array .long)) (t' := (.array .int)) (by decide) (by decide)))
  have F_r0_branchClass := F_r0_branchClass.same W13
  have F_r0_first := F_r0_first.other W13 (Or.inr (slot_ne (Or.inl (hw _ (List.mem_of_getElem? (i := 18) rfl))) (Or.inl (hw _ (List.mem_of_getElem? (i := 16) rfl))) (by decide) (t := (.array .int)) (t' := (.array .int)) (by decide) (by decide)))
  have F_r0_step := F_r0_step.other W13 (Or.inr (slot_ne (Or.inl (hw _ (List.mem_of_getElem? (i := 20) rfl))) (Or.inl (hw _ (List.mem_of_getElem? (i := 16) rfl))) (by decide) (t := (.array .int)) (t' := (.array .int)) (by decide) (by decide)))
  have F_r0_next := F_r0_next.other W13 (Or.inr (slot_ne (Or.inl (hw _ (List.mem_of_getElem? (i := 22) rfl))) (Or.inl (hw _ (List.mem_of_getElem? (i := 16) rfl))) (by decide) (t := (.array .int)) (t' := (.array .int)) (by decide) (by decide)))
  have F_r0_last := F_r0_last.other W13 (Or.inr (slot_ne (Or.inl (hw _ (List.mem_of_getElem? (i := 24) rfl))) (Or.inl (hw _ (List.mem_of_getElem? (i := 16) rfl))) (by decide) (t := (.array .int)) (t' := (.array .int)) (by decide) (by decide)))
  have F_r0_classServers := F_r0_classServers.other W13 (Or.inr (slot_ne (Or.inr (hw _ (List.mem_of_getElem? (i := 26) rfl))) (Or.inl (hw _ (List.mem_of_getElem? (i := 16) rfl))) (by decide) (t := (.array .long)) (t' := (.array .int)) (by decide) (by decide)))
  have F_r0_allClasses := F_r0_allClasses.other W13 (Or.inr (slot_ne (Or.inr (hw _ (List.mem_of_getElem? (i := 28) rfl))) (Or.inl (hw _ (List.mem_of_getElem? (i := 16) rfl))) (by decide) (t := .long) (t' := (.array .int)) (by decide) (by decide)))
  have F_r0_depth := F_r0_depth.other W13 (Or.inr (slot_ne (Or.inl (hw _ (List.mem_of_getElem? (i := 35) rfl))) (Or.inl (hw _ (List.mem_of_getElem? (i := 16) rfl))) (by decide) (t := .int) (t' := (.array .int)) (by decide) (by decide)))
  have V_d := V_d.other W13 ne_r0_d.symm
  have V_t := V_t.other W13 ne_r0_t.symm
  have V_bc := V_bc.other W13 ne_r0_bc.symm
  have V_fi := V_fi.other W13 ne_r0_fi.symm
  have V_sp := V_sp.other W13 ne_r0_sp.symm
  have V_nx := V_nx.other W13 ne_r0_nx.symm
  have V_la := V_la.other W13 ne_r0_la.symm
  have V_b6 := V_b6.other W13 ne_r0_b6.symm
  have V_b9 := V_b9.other W13 ne_r0_b9.symm
  have V_b12 := V_b12.other W13 ne_r0_b12.symm
  have K := K.wr W13 (Or.inl (List.mem_of_getElem? (i := 0) rfl))
  have Zs := Nat.le_trans Zs (Keep.of_wr W13).1
  have N13 := Fr.snoc X13 N12 g_r0
  refine Gol.aloadN X13 hx hby d3_64 (pc' := 65) rfl rfl rfl ?_
  refine Gol.aloadN X13 hx hby d3_65 (pc' := 66) rfl rfl rfl ?_
  refine Gol.getF X13 hx hby hZ hown (host := "") (Or.inl (hw _ (List.mem_of_getElem? (i := 17) rfl))) Via.refl e13 F_r0_first d3_66 (pc' := 69) rfl ?_
  intro T14 X14 e14
  refine Gol.iload X14 hx hby d3_69 (pc' := 71) rfl rfl ?_
  refine Gol.callS X14 hx hby hZ hown 1 [(.ref fi), (.int (64 : Int32))] (hw _ (List.mem_of_getElem? (i := 51) rfl)) (hw _ (List.mem_of_getElem? (i := 52) rfl)) (hw _ (List.mem_of_getElem? (i := 42) rfl)) (hw _ (List.mem_of_getElem? (i := 53) rfl)) (by decide) (rm7 l Z a0 hw [] fi (64 : Int32) kfi h13 n0 Zs rfl V_fi) (by decide) (by decide) e14 (by rw [hml]; rfl) (rest := [(.ref r0)]) (Nat.le_of_eq rfl) (by decide) (by decide) (lenOf pd_2 rfl) rfl d3_71 (pc' := 74) rfl ?_
  intro T15 v15 L15 X15 hQ15
  obtain ⟨b15, kb15, rfl, Nq15, Kq15, hb15, V_b15⟩ := hQ15
  have N15 := Fr.app N13 Nq15
  have lo_r0_b15 : r0 < b15 := Nat.lt_of_lt_of_le E_r0.lt hb15
  have ne_r0_b15 : r0 ≠ b15 := Nat.ne_of_lt lo_r0_b15
  have lo_d_b15 : d < b15 := Nat.lt_of_lt_of_le V_d.lt hb15
  have ne_d_b15 : d ≠ b15 := Nat.ne_of_lt lo_d_b15
  have lo_t_b15 : t < b15 := Nat.lt_of_lt_of_le V_t.lt hb15
  have ne_t_b15 : t ≠ b15 := Nat.ne_of_lt lo_t_b15
  have lo_bc_b15 : bc < b15 := Nat.lt_of_lt_of_le V_bc.lt hb15
  have ne_bc_b15 : bc ≠ b15 := Nat.ne_of_lt lo_bc_b15
  have lo_fi_b15 : fi < b15 := Nat.lt_of_lt_of_le V_fi.lt hb15
  have ne_fi_b15 : fi ≠ b15 := Nat.ne_of_lt lo_fi_b15
  have lo_sp_b15 : sp < b15 := Nat.lt_of_lt_of_le V_sp.lt hb15
  have ne_sp_b15 : sp ≠ b15 := Nat.ne_of_lt lo_sp_b15
  have lo_nx_b15 : nx < b15 := Nat.lt_of_lt_of_le V_nx.lt hb15
  have ne_nx_b15 : nx ≠ b15 := Nat.ne_of_lt lo_nx_b15
  have lo_la_b15 : la < b15 := Nat.lt_of_lt_of_le V_la.lt hb15
  have ne_la_b15 : la ≠ b15 := Nat.ne_of_lt lo_la_b15
  have lo_b6_b15 : b6 < b15 := Nat.lt_of_lt_of_le V_b6.lt hb15
  have ne_b6_b15 : b6 ≠ b15 := Nat.ne_of_lt lo_b6_b15
  have lo_b9_b15 : b9 < b15 := Nat.lt_of_lt_of_le V_b9.lt hb15
  have ne_b9_b15 : b9 ≠ b15 := Nat.ne_of_lt lo_b9_b15
  have lo_b12_b15 : b12 < b15 := Nat.lt_of_lt_of_le V_b12.lt hb15
  have ne_b12_b15 : b12 ≠ b15 := Nat.ne_of_lt lo_b12_b15
  have g_b15 : n0 ≤ b15 := Nat.le_trans Zs hb15
  have sz_b15 : h0.size ≤ b15 := Nat.le_trans K.1 hb15
  have E_r0 := E_r0.keep Kq15
  have F_r0_decided := F_r0_decided.keep Kq15 nin0
  have F_r0_taken := F_r0_taken.keep Kq15 nin0
  have F_r0_branchClass := F_r0_branchClass.keep Kq15 nin0
  have F_r0_first := F_r0_first.keep Kq15 nin0
  have F_r0_step := F_r0_step.keep Kq15 nin0
  have F_r0_next := F_r0_next.keep Kq15 nin0
  have F_r0_last := F_r0_last.keep Kq15 nin0
  have F_r0_classServers := F_r0_classServers.keep Kq15 nin0
  have F_r0_allClasses := F_r0_allClasses.keep Kq15 nin0
  have F_r0_depth := F_r0_depth.keep Kq15 nin0
  have V_d := V_d.keep Kq15 nin0
  have V_t := V_t.keep Kq15 nin0
  have V_bc := V_bc.keep Kq15 nin0
  have V_fi := V_fi.keep Kq15 nin0
  have V_sp := V_sp.keep Kq15 nin0
  have V_nx := V_nx.keep Kq15 nin0
  have V_la := V_la.keep Kq15 nin0
  have V_b6 := V_b6.keep Kq15 nin0
  have V_b9 := V_b9.keep Kq15 nin0
  have V_b12 := V_b12.keep Kq15 nin0
  have K := K.trans Kq15 all0
  have Zs := Nat.le_trans Zs Kq15.1
  show GolF _ _ _ _ _ _ _ T15 m 74 #[.val (.ref r0), .val (.long q1), .second, .val (.long q2), .second, .val (.int p3), .val (.int p4), .val (.int p5), .val (.int p6), .val (.int (64 : Int32))] [(.ref b15), (.ref r0)]
  refine Gol.putF X15 hx hby hZ hown (host := "") (Or.inl (hw _ (List.mem_of_getElem? (i := 17) rfl))) Via.refl rfl F_r0_first E_r0 (Or.inl (hw _ (List.mem_of_getElem? (i := 18) rfl))) (hw _ (List.mem_of_getElem? (i := 1) rfl)) (ty := (.array .int)) (by decide) rfl rfl d3_74 (pc' := 77) rfl ?_
  intro T16 h16 X16 e16 W16
  have E_r0 := E_r0.wr W16
  have F_r0_decided := F_r0_decided.other W16 (Or.inr (slot_ne (Or.inl (hw _ (List.mem_of_getElem? (i := 11) rfl))) (Or.inl (hw _ (List.mem_of_getElem? (i := 18) rfl))) (by decide) (t := (.array .long)) (t' := (.array .int)) (by decide) (by decide)))
  have F_r0_taken := F_r0_taken.other W16 (Or.inr (slot_ne (Or.inl (hw _ (List.mem_of_getElem? (i := 13) rfl))) (Or.inl (hw _ (List.mem_of_getElem? (i := 18) rfl))) (by decide) (t := (.array .long)) (t' := (.array .int)) (by decide) (by decide)))
  have F_r0_branchClass := F_r0_branchClass.other W16 (Or.inr (slot_ne (Or.inl (hw _ (List.mem_of_getElem? (i := 16) rfl))) (Or.inl (hw _ (List.mem_of_getElem? (i := 18) rfl))) (by decide) (t := (.array .int)) (t' := (.array .int)) (by decide) (by decide)))
  have F_r0_first := F_r0_first.same W16
  have F_r0_step := F_r0_step.other W16 (Or.inr (slot_ne (Or.inl (hw _ (List.mem_of_getElem? (i := 20) rfl))) (Or.inl (hw _ (List.mem_of_getElem? (i := 18) rfl))) (by decide) (t := (.array .int)) (t' := (.array .int)) (by decide) (by decide)))
  have F_r0_next := F_r0_next.other W16 (Or.inr (slot_ne (Or.inl (hw _ (List.mem_of_getElem? (i := 22) rfl))) (Or.inl (hw _ (List.mem_of_getElem? (i := 18) rfl))) (by decide) (t := (.array .int)) (t' := (.array .int)) (by decide) (by decide)))
  have F_r0_last := F_r0_last.other W16 (Or.inr (slot_ne (Or.inl (hw _ (List.mem_of_getElem? (i := 24) rfl))) (Or.inl (hw _ (List.mem_of_getElem? (i := 18) rfl))) (by decide) (t := (.array .int)) (t' := (.array .int)) (by decide) (by decide)))
  have F_r0_classServers := F_r0_classServers.other W16 (Or.inr (slot_ne (Or.inr (hw _ (List.mem_of_getElem? (i := 26) rfl))) (Or.inl (hw _ (List.mem_of_getElem? (i := 18) rfl))) (by decide) (t := (.array .long)) (t' := (.array .int)) (by decide) (by decide)))
  have F_r0_allClasses := F_r0_allClasses.other W16 (Or.inr (slot_ne (Or.inr (hw _ (List.mem_of_getElem? (i := 28) rfl))) (Or.inl (hw _ (List.mem_of_getElem? (i := 18) rfl))) (by decide) (t := .long) (t' := (.array .int)) (by decide) (by decide)))
  have F_r0_depth := F_r0_depth.other W16 (Or.inr (slot_ne (Or.inl (hw _ (List.mem_of_getElem? (i := 35) rfl))) (Or.inl (hw _ (List.mem_of_getElem? (i := 18) rfl))) (by decide) (t := .int) (t' := (.array .int)) (by decide) (by decide)))
  have V_d := V_d.other W16 ne_r0_d.symm
  have V_t := V_t.other W16 ne_r0_t.symm
  have V_bc := V_bc.other W16 ne_r0_bc.symm
  have V_fi := V_fi.other W16 ne_r0_fi.symm
  have V_sp := V_sp.other W16 ne_r0_sp.symm
  have V_nx := V_nx.other W16 ne_r0_nx.symm
  have V_la := V_la.other W16 ne_r0_la.symm
  have V_b6 := V_b6.other W16 ne_r0_b6.symm
  have V_b9 := V_b9.other W16 ne_r0_b9.symm
  have V_b12 := V_b12.other W16 ne_r0_b12.symm
  have V_b15 := V_b15.other W16 ne_r0_b15.symm
  have K := K.wr W16 (Or.inl (List.mem_of_getElem? (i := 0) rfl))
  have Zs := Nat.le_trans Zs (Keep.of_wr W16).1
  have N16 := Fr.snoc X16 N15 g_r0
  refine Gol.aloadN X16 hx hby d3_77 (pc' := 78) rfl rfl rfl ?_
  refine Gol.aloadN X16 hx hby d3_78 (pc' := 79) rfl rfl rfl ?_
  refine Gol.getF X16 hx hby hZ hown (host := "") (Or.inl (hw _ (List.mem_of_getElem? (i := 19) rfl))) Via.refl e16 F_r0_step d3_79 (pc' := 82) rfl ?_
  intro T17 X17 e17
  refine Gol.iload X17 hx hby d3_82 (pc' := 84) rfl rfl ?_
  refine Gol.callS X17 hx hby hZ hown 1 [(.ref sp), (.int (64 : Int32))] (hw _ (List.mem_of_getElem? (i := 51) rfl)) (hw _ (List.mem_of_getElem? (i := 52) rfl)) (hw _ (List.mem_of_getElem? (i := 42) rfl)) (hw _ (List.mem_of_getElem? (i := 53) rfl)) (by decide) (rm7 l Z a0 hw [] sp (64 : Int32) ksp h16 n0 Zs rfl V_sp) (by decide) (by decide) e17 (by rw [hml]; rfl) (rest := [(.ref r0)]) (Nat.le_of_eq rfl) (by decide) (by decide) (lenOf pd_2 rfl) rfl d3_84 (pc' := 87) rfl ?_
  intro T18 v18 L18 X18 hQ18
  obtain ⟨b18, kb18, rfl, Nq18, Kq18, hb18, V_b18⟩ := hQ18
  have N18 := Fr.app N16 Nq18
  have lo_r0_b18 : r0 < b18 := Nat.lt_of_lt_of_le E_r0.lt hb18
  have ne_r0_b18 : r0 ≠ b18 := Nat.ne_of_lt lo_r0_b18
  have lo_d_b18 : d < b18 := Nat.lt_of_lt_of_le V_d.lt hb18
  have ne_d_b18 : d ≠ b18 := Nat.ne_of_lt lo_d_b18
  have lo_t_b18 : t < b18 := Nat.lt_of_lt_of_le V_t.lt hb18
  have ne_t_b18 : t ≠ b18 := Nat.ne_of_lt lo_t_b18
  have lo_bc_b18 : bc < b18 := Nat.lt_of_lt_of_le V_bc.lt hb18
  have ne_bc_b18 : bc ≠ b18 := Nat.ne_of_lt lo_bc_b18
  have lo_fi_b18 : fi < b18 := Nat.lt_of_lt_of_le V_fi.lt hb18
  have ne_fi_b18 : fi ≠ b18 := Nat.ne_of_lt lo_fi_b18
  have lo_sp_b18 : sp < b18 := Nat.lt_of_lt_of_le V_sp.lt hb18
  have ne_sp_b18 : sp ≠ b18 := Nat.ne_of_lt lo_sp_b18
  have lo_nx_b18 : nx < b18 := Nat.lt_of_lt_of_le V_nx.lt hb18
  have ne_nx_b18 : nx ≠ b18 := Nat.ne_of_lt lo_nx_b18
  have lo_la_b18 : la < b18 := Nat.lt_of_lt_of_le V_la.lt hb18
  have ne_la_b18 : la ≠ b18 := Nat.ne_of_lt lo_la_b18
  have lo_b6_b18 : b6 < b18 := Nat.lt_of_lt_of_le V_b6.lt hb18
  have ne_b6_b18 : b6 ≠ b18 := Nat.ne_of_lt lo_b6_b18
  have lo_b9_b18 : b9 < b18 := Nat.lt_of_lt_of_le V_b9.lt hb18
  have ne_b9_b18 : b9 ≠ b18 := Nat.ne_of_lt lo_b9_b18
  have lo_b12_b18 : b12 < b18 := Nat.lt_of_lt_of_le V_b12.lt hb18
  have ne_b12_b18 : b12 ≠ b18 := Nat.ne_of_lt lo_b12_b18
  have lo_b15_b18 : b15 < b18 := Nat.lt_of_lt_of_le V_b15.lt hb18
  have ne_b15_b18 : b15 ≠ b18 := Nat.ne_of_lt lo_b15_b18
  have g_b18 : n0 ≤ b18 := Nat.le_trans Zs hb18
  have sz_b18 : h0.size ≤ b18 := Nat.le_trans K.1 hb18
  have E_r0 := E_r0.keep Kq18
  have F_r0_decided := F_r0_decided.keep Kq18 nin0
  have F_r0_taken := F_r0_taken.keep Kq18 nin0
  have F_r0_branchClass := F_r0_branchClass.keep Kq18 nin0
  have F_r0_first := F_r0_first.keep Kq18 nin0
  have F_r0_step := F_r0_step.keep Kq18 nin0
  have F_r0_next := F_r0_next.keep Kq18 nin0
  have F_r0_last := F_r0_last.keep Kq18 nin0
  have F_r0_classServers := F_r0_classServers.keep Kq18 nin0
  have F_r0_allClasses := F_r0_allClasses.keep Kq18 nin0
  have F_r0_depth := F_r0_depth.keep Kq18 nin0
  have V_d := V_d.keep Kq18 nin0
  have V_t := V_t.keep Kq18 nin0
  have V_bc := V_bc.keep Kq18 nin0
  have V_fi := V_fi.keep Kq18 nin0
  have V_sp := V_sp.keep Kq18 nin0
  have V_nx := V_nx.keep Kq18 nin0
  have V_la := V_la.keep Kq18 nin0
  have V_b6 := V_b6.keep Kq18 nin0
  have V_b9 := V_b9.keep Kq18 nin0
  have V_b12 := V_b12.keep Kq18 nin0
  have V_b15 := V_b15.keep Kq18 nin0
  have K := K.trans Kq18 all0
  have Zs := Nat.le_trans Zs Kq18.1
  show GolF _ _ _ _ _ _ _ T18 m 87 #[.val (.ref r0), .val (.long q1), .second, .val (.long q2), .second, .val (.int p3), .val (.int p4), .val (.int p5), .val (.int p6), .val (.int (64 : Int32))] [(.ref b18), (.ref r0)]
  refine Gol.putF X18 hx hby hZ hown (host := "") (Or.inl (hw _ (List.mem_of_getElem? (i := 19) rfl))) Via.refl rfl F_r0_step E_r0 (Or.inl (hw _ (List.mem_of_getElem? (i := 20) rfl))) (hw _ (List.mem_of_getElem? (i := 1) rfl)) (ty := (.array .int)) (by decide) rfl rfl d3_87 (pc' := 90) rfl ?_
  intro T19 h19 X19 e19 W19
  have E_r0 := E_r0.wr W19
  have F_r0_decided := F_r0_decided.other W19 (Or.inr (slot_ne (Or.inl (hw _ (List.mem_of_getElem? (i := 11) rfl))) (Or.inl (hw _ (List.mem_of_getElem? (i := 20) rfl))) (by decide) (t := (.array .long)) (t' := (.array .int)) (by decide) (by decide)))
  have F_r0_taken := F_r0_taken.other W19 (Or.inr (slot_ne (Or.inl (hw _ (List.mem_of_getElem? (i := 13) rfl))) (Or.inl (hw _ (List.mem_of_getElem? (i := 20) rfl))) (by decide) (t := (.array .long)) (t' := (.array .int)) (by decide) (by decide)))
  have F_r0_branchClass := F_r0_branchClass.other W19 (Or.inr (slot_ne (Or.inl (hw _ (List.mem_of_getElem? (i := 16) rfl))) (Or.inl (hw _ (List.mem_of_getElem? (i := 20) rfl))) (by decide) (t := (.array .int)) (t' := (.array .int)) (by decide) (by decide)))
  have F_r0_first := F_r0_first.other W19 (Or.inr (slot_ne (Or.inl (hw _ (List.mem_of_getElem? (i := 18) rfl))) (Or.inl (hw _ (List.mem_of_getElem? (i := 20) rfl))) (by decide) (t := (.array .int)) (t' := (.array .int)) (by decide) (by decide)))
  have F_r0_step := F_r0_step.same W19
  have F_r0_next := F_r0_next.other W19 (Or.inr (slot_ne (Or.inl (hw _ (List.mem_of_getElem? (i := 22) rfl))) (Or.inl (hw _ (List.mem_of_getElem? (i := 20) rfl))) (by decide) (t := (.array .int)) (t' := (.array .int)) (by decide) (by decide)))
  have F_r0_last := F_r0_last.other W19 (Or.inr (slot_ne (Or.inl (hw _ (List.mem_of_getElem? (i := 24) rfl))) (Or.inl (hw _ (List.mem_of_getElem? (i := 20) rfl))) (by decide) (t := (.array .int)) (t' := (.array .int)) (by decide) (by decide)))
  have F_r0_classServers := F_r0_classServers.other W19 (Or.inr (slot_ne (Or.inr (hw _ (List.mem_of_getElem? (i := 26) rfl))) (Or.inl (hw _ (List.mem_of_getElem? (i := 20) rfl))) (by decide) (t := (.array .long)) (t' := (.array .int)) (by decide) (by decide)))
  have F_r0_allClasses := F_r0_allClasses.other W19 (Or.inr (slot_ne (Or.inr (hw _ (List.mem_of_getElem? (i := 28) rfl))) (Or.inl (hw _ (List.mem_of_getElem? (i := 20) rfl))) (by decide) (t := .long) (t' := (.array .int)) (by decide) (by decide)))
  have F_r0_depth := F_r0_depth.other W19 (Or.inr (slot_ne (Or.inl (hw _ (List.mem_of_getElem? (i := 35) rfl))) (Or.inl (hw _ (List.mem_of_getElem? (i := 20) rfl))) (by decide) (t := .int) (t' := (.array .int)) (by decide) (by decide)))
  have V_d := V_d.other W19 ne_r0_d.symm
  have V_t := V_t.other W19 ne_r0_t.symm
  have V_bc := V_bc.other W19 ne_r0_bc.symm
  have V_fi := V_fi.other W19 ne_r0_fi.symm
  have V_sp := V_sp.other W19 ne_r0_sp.symm
  have V_nx := V_nx.other W19 ne_r0_nx.symm
  have V_la := V_la.other W19 ne_r0_la.symm
  have V_b6 := V_b6.other W19 ne_r0_b6.symm
  have V_b9 := V_b9.other W19 ne_r0_b9.symm
  have V_b12 := V_b12.other W19 ne_r0_b12.symm
  have V_b15 := V_b15.other W19 ne_r0_b15.symm
  have V_b18 := V_b18.other W19 ne_r0_b18.symm
  have K := K.wr W19 (Or.inl (List.mem_of_getElem? (i := 0) rfl))
  have Zs := Nat.le_trans Zs (Keep.of_wr W19).1
  have N19 := Fr.snoc X19 N18 g_r0
  refine Gol.aloadN X19 hx hby d3_90 (pc' := 91) rfl rfl rfl ?_
  refine Gol.aloadN X19 hx hby d3_91 (pc' := 92) rfl rfl rfl ?_
  refine Gol.getF X19 hx hby hZ hown (host := "") (Or.inl (hw _ (List.mem_of_getElem? (i := 21) rfl))) Via.refl e19 F_r0_next d3_92 (pc' := 95) rfl ?_
  intro T20 X20 e20
  refine Gol.iload X20 hx hby d3_95 (pc' := 97) rfl rfl ?_
  refine Gol.callS X20 hx hby hZ hown 1 [(.ref nx), (.int (64 : Int32))] (hw _ (List.mem_of_getElem? (i := 51) rfl)) (hw _ (List.mem_of_getElem? (i := 52) rfl)) (hw _ (List.mem_of_getElem? (i := 42) rfl)) (hw _ (List.mem_of_getElem? (i := 53) rfl)) (by decide) (rm7 l Z a0 hw [] nx (64 : Int32) knx h19 n0 Zs rfl V_nx) (by decide) (by decide) e20 (by rw [hml]; rfl) (rest := [(.ref r0)]) (Nat.le_of_eq rfl) (by decide) (by decide) (lenOf pd_2 rfl) rfl d3_97 (pc' := 100) rfl ?_
  intro T21 v21 L21 X21 hQ21
  obtain ⟨b21, kb21, rfl, Nq21, Kq21, hb21, V_b21⟩ := hQ21
  have N21 := Fr.app N19 Nq21
  have lo_r0_b21 : r0 < b21 := Nat.lt_of_lt_of_le E_r0.lt hb21
  have ne_r0_b21 : r0 ≠ b21 := Nat.ne_of_lt lo_r0_b21
  have lo_d_b21 : d < b21 := Nat.lt_of_lt_of_le V_d.lt hb21
  have ne_d_b21 : d ≠ b21 := Nat.ne_of_lt lo_d_b21
  have lo_t_b21 : t < b21 := Nat.lt_of_lt_of_le V_t.lt hb21
  have ne_t_b21 : t ≠ b21 := Nat.ne_of_lt lo_t_b21
  have lo_bc_b21 : bc < b21 := Nat.lt_of_lt_of_le V_bc.lt hb21
  have ne_bc_b21 : bc ≠ b21 := Nat.ne_of_lt lo_bc_b21
  have lo_fi_b21 : fi < b21 := Nat.lt_of_lt_of_le V_fi.lt hb21
  have ne_fi_b21 : fi ≠ b21 := Nat.ne_of_lt lo_fi_b21
  have lo_sp_b21 : sp < b21 := Nat.lt_of_lt_of_le V_sp.lt hb21
  have ne_sp_b21 : sp ≠ b21 := Nat.ne_of_lt lo_sp_b21
  have lo_nx_b21 : nx < b21 := Nat.lt_of_lt_of_le V_nx.lt hb21
  have ne_nx_b21 : nx ≠ b21 := Nat.ne_of_lt lo_nx_b21
  have lo_la_b21 : la < b21 := Nat.lt_of_lt_of_le V_la.lt hb21
  have ne_la_b21 : la ≠ b21 := Nat.ne_of_lt lo_la_b21
  have lo_b6_b21 : b6 < b21 := Nat.lt_of_lt_of_le V_b6.lt hb21
  have ne_b6_b21 : b6 ≠ b21 := Nat.ne_of_lt lo_b6_b21
  have lo_b9_b21 : b9 < b21 := Nat.lt_of_lt_of_le V_b9.lt hb21
  have ne_b9_b21 : b9 ≠ b21 := Nat.ne_of_lt lo_b9_b21
  have lo_b12_b21 : b12 < b21 := Nat.lt_of_lt_of_le V_b12.lt hb21
  have ne_b12_b21 : b12 ≠ b21 := Nat.ne_of_lt lo_b12_b21
  have lo_b15_b21 : b15 < b21 := Nat.lt_of_lt_of_le V_b15.lt hb21
  have ne_b15_b21 : b15 ≠ b21 := Nat.ne_of_lt lo_b15_b21
  have lo_b18_b21 : b18 < b21 := Nat.lt_of_lt_of_le V_b18.lt hb21
  have ne_b18_b21 : b18 ≠ b21 := Nat.ne_of_lt lo_b18_b21
  have g_b21 : n0 ≤ b21 := Nat.le_trans Zs hb21
  have sz_b21 : h0.size ≤ b21 := Nat.le_trans K.1 hb21
  have E_r0 := E_r0.keep Kq21
  have F_r0_decided := F_r0_decided.keep Kq21 nin0
  have F_r0_taken := F_r0_taken.keep Kq21 nin0
  have F_r0_branchClass := F_r0_branchClass.keep Kq21 nin0
  have F_r0_first := F_r0_first.keep Kq21 nin0
  have F_r0_step := F_r0_step.keep Kq21 nin0
  have F_r0_next := F_r0_next.keep Kq21 nin0
  have F_r0_last := F_r0_last.keep Kq21 nin0
  have F_r0_classServers := F_r0_classServers.keep Kq21 nin0
  have F_r0_allClasses := F_r0_allClasses.keep Kq21 nin0
  have F_r0_depth := F_r0_depth.keep Kq21 nin0
  have V_d := V_d.keep Kq21 nin0
  have V_t := V_t.keep Kq21 nin0
  have V_bc := V_bc.keep Kq21 nin0
  have V_fi := V_fi.keep Kq21 nin0
  have V_sp := V_sp.keep Kq21 nin0
  have V_nx := V_nx.keep Kq21 nin0
  have V_la := V_la.keep Kq21 nin0
  have V_b6 := V_b6.keep Kq21 nin0
  have V_b9 := V_b9.keep Kq21 nin0
  have V_b12 := V_b12.keep Kq21 nin0
  have V_b15 := V_b15.keep Kq21 nin0
  have V_b18 := V_b18.keep Kq21 nin0
  have K := K.trans Kq21 all0
  have Zs := Nat.le_trans Zs Kq21.1
  show GolF _ _ _ _ _ _ _ T21 m 100 #[.val (.ref r0), .val (.long q1), .second, .val (.long q2), .second, .val (.int p3), .val (.int p4), .val (.int p5), .val (.int p6), .val (.int (64 : Int32))] [(.ref b21), (.ref r0)]
  refine Gol.putF X21 hx hby hZ hown (host := "") (Or.inl (hw _ (List.mem_of_getElem? (i := 21) rfl))) Via.refl rfl F_r0_next E_r0 (Or.inl (hw _ (List.mem_of_getElem? (i := 22) rfl))) (hw _ (List.mem_of_getElem? (i := 1) rfl)) (ty := (.array .int)) (by decide) rfl rfl d3_100 (pc' := 103) rfl ?_
  intro T22 h22 X22 e22 W22
  have E_r0 := E_r0.wr W22
  have F_r0_decided := F_r0_decided.other W22 (Or.inr (slot_ne (Or.inl (hw _ (List.mem_of_getElem? (i := 11) rfl))) (Or.inl (hw _ (List.mem_of_getElem? (i := 22) rfl))) (by decide) (t := (.array .long)) (t' := (.array .int)) (by decide) (by decide)))
  have F_r0_taken := F_r0_taken.other W22 (Or.inr (slot_ne (Or.inl (hw _ (List.mem_of_getElem? (i := 13) rfl))) (Or.inl (hw _ (List.mem_of_getElem? (i := 22) rfl))) (by decide) (t := (.array .long)) (t' := (.array .int)) (by decide) (by decide)))
  have F_r0_branchClass := F_r0_branchClass.other W22 (Or.inr (slot_ne (Or.inl (hw _ (List.mem_of_getElem? (i := 16) rfl))) (Or.inl (hw _ (List.mem_of_getElem? (i := 22) rfl))) (by decide) (t := (.array .int)) (t' := (.array .int)) (by decide) (by decide)))
  have F_r0_first := F_r0_first.other W22 (Or.inr (slot_ne (Or.inl (hw _ (List.mem_of_getElem? (i := 18) rfl))) (Or.inl (hw _ (List.mem_of_getElem? (i := 22) rfl))) (by decide) (t := (.array .int)) (t' := (.array .int)) (by decide) (by decide)))
  have F_r0_step := F_r0_step.other W22 (Or.inr (slot_ne (Or.inl (hw _ (List.mem_of_getElem? (i := 20) rfl))) (Or.inl (hw _ (List.mem_of_getElem? (i := 22) rfl))) (by decide) (t := (.array .int)) (t' := (.array .int)) (by decide) (by decide)))
  have F_r0_next := F_r0_next.same W22
  have F_r0_last := F_r0_last.other W22 (Or.inr (slot_ne (Or.inl (hw _ (List.mem_of_getElem? (i := 24) rfl))) (Or.inl (hw _ (List.mem_of_getElem? (i := 22) rfl))) (by decide) (t := (.array .int)) (t' := (.array .int)) (by decide) (by decide)))
  have F_r0_classServers := F_r0_classServers.other W22 (Or.inr (slot_ne (Or.inr (hw _ (List.mem_of_getElem? (i := 26) rfl))) (Or.inl (hw _ (List.mem_of_getElem? (i := 22) rfl))) (by decide) (t := (.array .long)) (t' := (.array .int)) (by decide) (by decide)))
  have F_r0_allClasses := F_r0_allClasses.other W22 (Or.inr (slot_ne (Or.inr (hw _ (List.mem_of_getElem? (i := 28) rfl))) (Or.inl (hw _ (List.mem_of_getElem? (i := 22) rfl))) (by decide) (t := .long) (t' := (.array .int)) (by decide) (by decide)))
  have F_r0_depth := F_r0_depth.other W22 (Or.inr (slot_ne (Or.inl (hw _ (List.mem_of_getElem? (i := 35) rfl))) (Or.inl (hw _ (List.mem_of_getElem? (i := 22) rfl))) (by decide) (t := .int) (t' := (.array .int)) (by decide) (by decide)))
  have V_d := V_d.other W22 ne_r0_d.symm
  have V_t := V_t.other W22 ne_r0_t.symm
  have V_bc := V_bc.other W22 ne_r0_bc.symm
  have V_fi := V_fi.other W22 ne_r0_fi.symm
  have V_sp := V_sp.other W22 ne_r0_sp.symm
  have V_nx := V_nx.other W22 ne_r0_nx.symm
  have V_la := V_la.other W22 ne_r0_la.symm
  have V_b6 := V_b6.other W22 ne_r0_b6.symm
  have V_b9 := V_b9.other W22 ne_r0_b9.symm
  have V_b12 := V_b12.other W22 ne_r0_b12.symm
  have V_b15 := V_b15.other W22 ne_r0_b15.symm
  have V_b18 := V_b18.other W22 ne_r0_b18.symm
  have V_b21 := V_b21.other W22 ne_r0_b21.symm
  have K := K.wr W22 (Or.inl (List.mem_of_getElem? (i := 0) rfl))
  have Zs := Nat.le_trans Zs (Keep.of_wr W22).1
  have N22 := Fr.snoc X22 N21 g_r0
  refine Gol.aloadN X22 hx hby d3_103 (pc' := 104) rfl rfl rfl ?_
  refine Gol.aloadN X22 hx hby d3_104 (pc' := 105) rfl rfl rfl ?_
  refine Gol.getF X22 hx hby hZ hown (host := "") (Or.inl (hw _ (List.mem_of_getElem? (i := 23) rfl))) Via.refl e22 F_r0_last d3_105 (pc' := 108) rfl ?_
  intro T23 X23 e23
  refine Gol.iload X23 hx hby d3_108 (pc' := 110) rfl rfl ?_
  refine Gol.callS X23 hx hby hZ hown 1 [(.ref la), (.int (64 : Int32))] (hw _ (List.mem_of_getElem? (i := 51) rfl)) (hw _ (List.mem_of_getElem? (i := 52) rfl)) (hw _ (List.mem_of_getElem? (i := 42) rfl)) (hw _ (List.mem_of_getElem? (i := 53) rfl)) (by decide) (rm7 l Z a0 hw [] la (64 : Int32) kla h22 n0 Zs rfl V_la) (by decide) (by decide) e23 (by rw [hml]; rfl) (rest := [(.ref r0)]) (Nat.le_of_eq rfl) (by decide) (by decide) (lenOf pd_2 rfl) rfl d3_110 (pc' := 113) rfl ?_
  intro T24 v24 L24 X24 hQ24
  obtain ⟨b24, kb24, rfl, Nq24, Kq24, hb24, V_b24⟩ := hQ24
  have N24 := Fr.app N22 Nq24
  have lo_r0_b24 : r0 < b24 := Nat.lt_of_lt_of_le E_r0.lt hb24
  have ne_r0_b24 : r0 ≠ b24 := Nat.ne_of_lt lo_r0_b24
  have lo_d_b24 : d < b24 := Nat.lt_of_lt_of_le V_d.lt hb24
  have ne_d_b24 : d ≠ b24 := Nat.ne_of_lt lo_d_b24
  have lo_t_b24 : t < b24 := Nat.lt_of_lt_of_le V_t.lt hb24
  have ne_t_b24 : t ≠ b24 := Nat.ne_of_lt lo_t_b24
  have lo_bc_b24 : bc < b24 := Nat.lt_of_lt_of_le V_bc.lt hb24
  have ne_bc_b24 : bc ≠ b24 := Nat.ne_of_lt lo_bc_b24
  have lo_fi_b24 : fi < b24 := Nat.lt_of_lt_of_le V_fi.lt hb24
  have ne_fi_b24 : fi ≠ b24 := Nat.ne_of_lt lo_fi_b24
  have lo_sp_b24 : sp < b24 := Nat.lt_of_lt_of_le V_sp.lt hb24
  have ne_sp_b24 : sp ≠ b24 := Nat.ne_of_lt lo_sp_b24
  have lo_nx_b24 : nx < b24 := Nat.lt_of_lt_of_le V_nx.lt hb24
  have ne_nx_b24 : nx ≠ b24 := Nat.ne_of_lt lo_nx_b24
  have lo_la_b24 : la < b24 := Nat.lt_of_lt_of_le V_la.lt hb24
  have ne_la_b24 : la ≠ b24 := Nat.ne_of_lt lo_la_b24
  have lo_b6_b24 : b6 < b24 := Nat.lt_of_lt_of_le V_b6.lt hb24
  have ne_b6_b24 : b6 ≠ b24 := Nat.ne_of_lt lo_b6_b24
  have lo_b9_b24 : b9 < b24 := Nat.lt_of_lt_of_le V_b9.lt hb24
  have ne_b9_b24 : b9 ≠ b24 := Nat.ne_of_lt lo_b9_b24
  have lo_b12_b24 : b12 < b24 := Nat.lt_of_lt_of_le V_b12.lt hb24
  have ne_b12_b24 : b12 ≠ b24 := Nat.ne_of_lt lo_b12_b24
  have lo_b15_b24 : b15 < b24 := Nat.lt_of_lt_of_le V_b15.lt hb24
  have ne_b15_b24 : b15 ≠ b24 := Nat.ne_of_lt lo_b15_b24
  have lo_b18_b24 : b18 < b24 := Nat.lt_of_lt_of_le V_b18.lt hb24
  have ne_b18_b24 : b18 ≠ b24 := Nat.ne_of_lt lo_b18_b24
  have lo_b21_b24 : b21 < b24 := Nat.lt_of_lt_of_le V_b21.lt hb24
  have ne_b21_b24 : b21 ≠ b24 := Nat.ne_of_lt lo_b21_b24
  have g_b24 : n0 ≤ b24 := Nat.le_trans Zs hb24
  have sz_b24 : h0.size ≤ b24 := Nat.le_trans K.1 hb24
  have E_r0 := E_r0.keep Kq24
  have F_r0_decided := F_r0_decided.keep Kq24 nin0
  have F_r0_taken := F_r0_taken.keep Kq24 nin0
  have F_r0_branchClass := F_r0_branchClass.keep Kq24 nin0
  have F_r0_first := F_r0_first.keep Kq24 nin0
  have F_r0_step := F_r0_step.keep Kq24 nin0
  have F_r0_next := F_r0_next.keep Kq24 nin0
  have F_r0_last := F_r0_last.keep Kq24 nin0
  have F_r0_classServers := F_r0_classServers.keep Kq24 nin0
  have F_r0_allClasses := F_r0_allClasses.keep Kq24 nin0
  have F_r0_depth := F_r0_depth.keep Kq24 nin0
  have V_d := V_d.keep Kq24 nin0
  have V_t := V_t.keep Kq24 nin0
  have V_bc := V_bc.keep Kq24 nin0
  have V_fi := V_fi.keep Kq24 nin0
  have V_sp := V_sp.keep Kq24 nin0
  have V_nx := V_nx.keep Kq24 nin0
  have V_la := V_la.keep Kq24 nin0
  have V_b6 := V_b6.keep Kq24 nin0
  have V_b9 := V_b9.keep Kq24 nin0
  have V_b12 := V_b12.keep Kq24 nin0
  have V_b15 := V_b15.keep Kq24 nin0
  have V_b18 := V_b18.keep Kq24 nin0
  have V_b21 := V_b21.keep Kq24 nin0
  have K := K.trans Kq24 all0
  have Zs := Nat.le_trans Zs Kq24.1
  show GolF _ _ _ _ _ _ _ T24 m 113 #[.val (.ref r0), .val (.long q1), .second, .val (.long q2), .second, .val (.int p3), .val (.int p4), .val (.int p5), .val (.int p6), .val (.int (64 : Int32))] [(.ref b24), (.ref r0)]
  refine Gol.putF X24 hx hby hZ hown (host := "") (Or.inl (hw _ (List.mem_of_getElem? (i := 23) rfl))) Via.refl rfl F_r0_last E_r0 (Or.inl (hw _ (List.mem_of_getElem? (i := 24) rfl))) (hw _ (List.mem_of_getElem? (i := 1) rfl)) (ty := (.array .int)) (by decide) rfl rfl d3_113 (pc' := 116) rfl ?_
  intro T25 h25 X25 e25 W25
  have E_r0 := E_r0.wr W25
  have F_r0_decided := F_r0_decided.other W25 (Or.inr (slot_ne (Or.inl (hw _ (List.mem_of_getElem? (i := 11) rfl))) (Or.inl (hw _ (List.mem_of_getElem? (i := 24) rfl))) (by decide) (t := (.array .long)) (t' := (.array .int)) (by decide) (by decide)))
  have F_r0_taken := F_r0_taken.other W25 (Or.inr (slot_ne (Or.inl (hw _ (List.mem_of_getElem? (i := 13) rfl))) (Or.inl (hw _ (List.mem_of_getElem? (i := 24) rfl))) (by decide) (t := (.array .long)) (t' := (.array .int)) (by decide) (by decide)))
  have F_r0_branchClass := F_r0_branchClass.other W25 (Or.inr (slot_ne (Or.inl (hw _ (List.mem_of_getElem? (i := 16) rfl))) (Or.inl (hw _ (List.mem_of_getElem? (i := 24) rfl))) (by decide) (t := (.array .int)) (t' := (.array .int)) (by decide) (by decide)))
  have F_r0_first := F_r0_first.other W25 (Or.inr (slot_ne (Or.inl (hw _ (List.mem_of_getElem? (i := 18) rfl))) (Or.inl (hw _ (List.mem_of_getElem? (i := 24) rfl))) (by decide) (t := (.array .int)) (t' := (.array .int)) (by decide) (by decide)))
  have F_r0_step := F_r0_step.other W25 (Or.inr (slot_ne (Or.inl (hw _ (List.mem_of_getElem? (i := 20) rfl))) (Or.inl (hw _ (List.mem_of_getElem? (i := 24) rfl))) (by decide) (t := (.array .int)) (t' := (.array .int)) (by decide) (by decide)))
  have F_r0_next := F_r0_next.other W25 (Or.inr (slot_ne (Or.inl (hw _ (List.mem_of_getElem? (i := 22) rfl))) (Or.inl (hw _ (List.mem_of_getElem? (i := 24) rfl))) (by decide) (t := (.array .int)) (t' := (.array .int)) (by decide) (by decide)))
  have F_r0_last := F_r0_last.same W25
  have F_r0_classServers := F_r0_classServers.other W25 (Or.inr (slot_ne (Or.inr (hw _ (List.mem_of_getElem? (i := 26) rfl))) (Or.inl (hw _ (List.mem_of_getElem? (i := 24) rfl))) (by decide) (t := (.array .long)) (t' := (.array .int)) (by decide) (by decide)))
  have F_r0_allClasses := F_r0_allClasses.other W25 (Or.inr (slot_ne (Or.inr (hw _ (List.mem_of_getElem? (i := 28) rfl))) (Or.inl (hw _ (List.mem_of_getElem? (i := 24) rfl))) (by decide) (t := .long) (t' := (.array .int)) (by decide) (by decide)))
  have F_r0_depth := F_r0_depth.other W25 (Or.inr (slot_ne (Or.inl (hw _ (List.mem_of_getElem? (i := 35) rfl))) (Or.inl (hw _ (List.mem_of_getElem? (i := 24) rfl))) (by decide) (t := .int) (t' := (.array .int)) (by decide) (by decide)))
  have V_d := V_d.other W25 ne_r0_d.symm
  have V_t := V_t.other W25 ne_r0_t.symm
  have V_bc := V_bc.other W25 ne_r0_bc.symm
  have V_fi := V_fi.other W25 ne_r0_fi.symm
  have V_sp := V_sp.other W25 ne_r0_sp.symm
  have V_nx := V_nx.other W25 ne_r0_nx.symm
  have V_la := V_la.other W25 ne_r0_la.symm
  have V_b6 := V_b6.other W25 ne_r0_b6.symm
  have V_b9 := V_b9.other W25 ne_r0_b9.symm
  have V_b12 := V_b12.other W25 ne_r0_b12.symm
  have V_b15 := V_b15.other W25 ne_r0_b15.symm
  have V_b18 := V_b18.other W25 ne_r0_b18.symm
  have V_b21 := V_b21.other W25 ne_r0_b21.symm
  have V_b24 := V_b24.other W25 ne_r0_b24.symm
  have K := K.wr W25 (Or.inl (List.mem_of_getElem? (i := 0) rfl))
  have Zs := Nat.le_trans Zs (Keep.of_wr W25).1
  have N25 := Fr.snoc X25 N24 g_r0
  refine Gol.aloadN X25 hx hby d3_116 (pc' := 117) rfl rfl rfl ?_
  refine Gol.dup X25 hx hby d3_117 (pc' := 118) rfl rfl ?_
  refine Gol.getF X25 hx hby hZ hown (host := "") (Or.inl (hw _ (List.mem_of_getElem? (i := 34) rfl))) Via.refl e25 F_r0_depth d3_118 (pc' := 121) rfl ?_
  intro T26 X26 e26
  refine Gol.dupX1 X26 hx hby d3_121 (pc' := 122) rfl rfl rfl ?_
  refine Gol.iconst X26 hx hby d3_122 (pc' := 123) rfl (z := (1 : Int32)) rfl ?_
  refine Gol.iadd X26 hx hby d3_123 (pc' := 124) rfl (z := (1 : Int32)) rfl ?_
  refine Gol.putF X26 hx hby hZ hown (host := "") (Or.inl (hw _ (List.mem_of_getElem? (i := 34) rfl))) Via.refl e26 F_r0_depth E_r0 (Or.inl (hw _ (List.mem_of_getElem? (i := 35) rfl))) (hw _ (List.mem_of_getElem? (i := 1) rfl)) (ty := .int) (by decide) rfl rfl d3_124 (pc' := 127) rfl ?_
  intro T27 h27 X27 e27 W27
  have E_r0 := E_r0.wr W27
  have F_r0_decided := F_r0_decided.other W27 (Or.inr (slot_ne (Or.inl (hw _ (List.mem_of_getElem? (i := 11) rfl))) (Or.inl (hw _ (List.mem_of_getElem? (i := 35) rfl))) (by decide) (t := (.array .long)) (t' := .int) (by decide) (by decide)))
  have F_r0_taken := F_r0_taken.other W27 (Or.inr (slot_ne (Or.inl (hw _ (List.mem_of_getElem? (i := 13) rfl))) (Or.inl (hw _ (List.mem_of_getElem? (i := 35) rfl))) (by decide) (t := (.array .long)) (t' := .int) (by decide) (by decide)))
  have F_r0_branchClass := F_r0_branchClass.other W27 (Or.inr (slot_ne (Or.inl (hw _ (List.mem_of_getElem? (i := 16) rfl))) (Or.inl (hw _ (List.mem_of_getElem? (i := 35) rfl))) (by decide) (t := (.array .int)) (t' := .int) (by decide) (by decide)))
  have F_r0_first := F_r0_first.other W27 (Or.inr (slot_ne (Or.inl (hw _ (List.mem_of_getElem? (i := 18) rfl))) (Or.inl (hw _ (List.mem_of_getElem? (i := 35) rfl))) (by decide) (t := (.array .int)) (t' := .int) (by decide) (by decide)))
  have F_r0_step := F_r0_step.other W27 (Or.inr (slot_ne (Or.inl (hw _ (List.mem_of_getElem? (i := 20) rfl))) (Or.inl (hw _ (List.mem_of_getElem? (i := 35) rfl))) (by decide) (t := (.array .int)) (t' := .int) (by decide) (by decide)))
  have F_r0_next := F_r0_next.other W27 (Or.inr (slot_ne (Or.inl (hw _ (List.mem_of_getElem? (i := 22) rfl))) (Or.inl (hw _ (List.mem_of_getElem? (i := 35) rfl))) (by decide) (t := (.array .int)) (t' := .int) (by decide) (by decide)))
  have F_r0_last := F_r0_last.other W27 (Or.inr (slot_ne (Or.inl (hw _ (List.mem_of_getElem? (i := 24) rfl))) (Or.inl (hw _ (List.mem_of_getElem? (i := 35) rfl))) (by decide) (t := (.array .int)) (t' := .int) (by decide) (by decide)))
  have F_r0_classServers := F_r0_classServers.other W27 (Or.inr (slot_ne (Or.inr (hw _ (List.mem_of_getElem? (i := 26) rfl))) (Or.inl (hw _ (List.mem_of_getElem? (i := 35) rfl))) (by decide) (t := (.array .long)) (t' := .int) (by decide) (by decide)))
  have F_r0_allClasses := F_r0_allClasses.other W27 (Or.inr (slot_ne (Or.inr (hw _ (List.mem_of_getElem? (i := 28) rfl))) (Or.inl (hw _ (List.mem_of_getElem? (i := 35) rfl))) (by decide) (t := .long) (t' := .int) (by decide) (by decide)))
  have F_r0_depth := F_r0_depth.same W27
  have V_d := V_d.other W27 ne_r0_d.symm
  have V_t := V_t.other W27 ne_r0_t.symm
  have V_bc := V_bc.other W27 ne_r0_bc.symm
  have V_fi := V_fi.other W27 ne_r0_fi.symm
  have V_sp := V_sp.other W27 ne_r0_sp.symm
  have V_nx := V_nx.other W27 ne_r0_nx.symm
  have V_la := V_la.other W27 ne_r0_la.symm
  have V_b6 := V_b6.other W27 ne_r0_b6.symm
  have V_b9 := V_b9.other W27 ne_r0_b9.symm
  have V_b12 := V_b12.other W27 ne_r0_b12.symm
  have V_b15 := V_b15.other W27 ne_r0_b15.symm
  have V_b18 := V_b18.other W27 ne_r0_b18.symm
  have V_b21 := V_b21.other W27 ne_r0_b21.symm
  have V_b24 := V_b24.other W27 ne_r0_b24.symm
  have K := K.wr W27 (Or.inl (List.mem_of_getElem? (i := 0) rfl))
  have Zs := Nat.le_trans Zs (Keep.of_wr W27).1
  have N27 := Fr.snoc X27 N25 g_r0
  refine Gol.istore X27 hx hby d3_127 (pc' := 129) rfl (l' := #[.val (.ref r0), .val (.long q1), .second, .val (.long q2), .second, .val (.int p3), .val (.int p4), .val (.int p5), .val (.int p6), .val (.int (0 : Int32))]) rfl ?_
  refine Gol.aloadN X27 hx hby d3_129 (pc' := 130) rfl rfl rfl ?_
  refine Gol.getF X27 hx hby hZ hown (host := "") (Or.inl (hw _ (List.mem_of_getElem? (i := 10) rfl))) Via.refl e27 F_r0_decided d3_130 (pc' := 133) rfl ?_
  intro T28 X28 e28
  refine Gol.iload X28 hx hby d3_133 (pc' := 135) rfl rfl ?_
  refine Gol.lloadN X28 hx hby d3_135 (pc' := 136) rfl rfl ?_
  refine Gol.lastore X28 hx hby hZ e28 V_b6 d3_136 (pc' := 137) rfl ⟨by decide, by decide⟩ 0 rfl (Nat.le_of_ble_eq_true rfl) ?_
  intro T29 h29 X29 e29 W29 A29
  have V_b6 : Arv Z h29 b6 kb6 .long (64 : Int32) [(.long q1), (.long (0 : Int64))] (.long (0 : Int64)) := A29
  have E_r0 := E_r0.wr W29
  have F_r0_decided := F_r0_decided.other W29 (Or.inl ne_r0_b6)
  have F_r0_taken := F_r0_taken.other W29 (Or.inl ne_r0_b6)
  have F_r0_branchClass := F_r0_branchClass.other W29 (Or.inl ne_r0_b6)
  have F_r0_first := F_r0_first.other W29 (Or.inl ne_r0_b6)
  have F_r0_step := F_r0_step.other W29 (Or.inl ne_r0_b6)
  have F_r0_next := F_r0_next.other W29 (Or.inl ne_r0_b6)
  have F_r0_last := F_r0_last.other W29 (Or.inl ne_r0_b6)
  have F_r0_classServers := F_r0_classServers.other W29 (Or.inl ne_r0_b6)
  have F_r0_allClasses := F_r0_allClasses.other W29 (Or.inl ne_r0_b6)
  have F_r0_depth := F_r0_depth.other W29 (Or.inl ne_r0_b6)
  have V_d := V_d.other W29 ne_d_b6
  have V_t := V_t.other W29 ne_t_b6
  have V_bc := V_bc.other W29 ne_bc_b6
  have V_fi := V_fi.other W29 ne_fi_b6
  have V_sp := V_sp.other W29 ne_sp_b6
  have V_nx := V_nx.other W29 ne_nx_b6
  have V_la := V_la.other W29 ne_la_b6
  have V_b9 := V_b9.other W29 ne_b6_b9.symm
  have V_b12 := V_b12.other W29 ne_b6_b12.symm
  have V_b15 := V_b15.other W29 ne_b6_b15.symm
  have V_b18 := V_b18.other W29 ne_b6_b18.symm
  have V_b21 := V_b21.other W29 ne_b6_b21.symm
  have V_b24 := V_b24.other W29 ne_b6_b24.symm
  have K := K.wr W29 (Or.inr sz_b6)
  have Zs := Nat.le_trans Zs (Keep.of_wr W29).1
  have N29 := Fr.snoc X29 N27 g_b6
  refine Gol.aloadN X29 hx hby d3_137 (pc' := 138) rfl rfl rfl ?_
  refine Gol.getF X29 hx hby hZ hown (host := "") (Or.inl (hw _ (List.mem_of_getElem? (i := 12) rfl))) Via.refl e29 F_r0_taken d3_138 (pc' := 141) rfl ?_
  intro T30 X30 e30
  refine Gol.iload X30 hx hby d3_141 (pc' := 143) rfl rfl ?_
  refine Gol.lloadN X30 hx hby d3_143 (pc' := 144) rfl rfl ?_
  refine Gol.lastore X30 hx hby hZ e30 V_b9 d3_144 (pc' := 145) rfl ⟨by decide, by decide⟩ 0 rfl (Nat.le_of_ble_eq_true rfl) ?_
  intro T31 h31 X31 e31 W31 A31
  have V_b9 : Arv Z h31 b9 kb9 .long (64 : Int32) [(.long q2), (.long (0 : Int64))] (.long (0 : Int64)) := A31
  have E_r0 := E_r0.wr W31
  have F_r0_decided := F_r0_decided.other W31 (Or.inl ne_r0_b9)
  have F_r0_taken := F_r0_taken.other W31 (Or.inl ne_r0_b9)
  have F_r0_branchClass := F_r0_branchClass.other W31 (Or.inl ne_r0_b9)
  have F_r0_first := F_r0_first.other W31 (Or.inl ne_r0_b9)
  have F_r0_step := F_r0_step.other W31 (Or.inl ne_r0_b9)
  have F_r0_next := F_r0_next.other W31 (Or.inl ne_r0_b9)
  have F_r0_last := F_r0_last.other W31 (Or.inl ne_r0_b9)
  have F_r0_classServers := F_r0_classServers.other W31 (Or.inl ne_r0_b9)
  have F_r0_allClasses := F_r0_allClasses.other W31 (Or.inl ne_r0_b9)
  have F_r0_depth := F_r0_depth.other W31 (Or.inl ne_r0_b9)
  have V_d := V_d.other W31 ne_d_b9
  have V_t := V_t.other W31 ne_t_b9
  have V_bc := V_bc.other W31 ne_bc_b9
  have V_fi := V_fi.other W31 ne_fi_b9
  have V_sp := V_sp.other W31 ne_sp_b9
  have V_nx := V_nx.other W31 ne_nx_b9
  have V_la := V_la.other W31 ne_la_b9
  have V_b12 := V_b12.other W31 ne_b9_b12.symm
  have V_b15 := V_b15.other W31 ne_b9_b15.symm
  have V_b18 := V_b18.other W31 ne_b9_b18.symm
  have V_b21 := V_b21.other W31 ne_b9_b21.symm
  have V_b24 := V_b24.other W31 ne_b9_b24.symm
  have V_b6 := V_b6.other W31 ne_b6_b9
  have K := K.wr W31 (Or.inr sz_b9)
  have Zs := Nat.le_trans Zs (Keep.of_wr W31).1
  have N31 := Fr.snoc X31 N29 g_b9
  refine Gol.aloadN X31 hx hby d3_145 (pc' := 146) rfl rfl rfl ?_
  refine Gol.getF X31 hx hby hZ hown (host := "") (Or.inl (hw _ (List.mem_of_getElem? (i := 15) rfl))) Via.refl e31 F_r0_branchClass d3_146 (pc' := 149) rfl ?_
  intro T32 X32 e32
  refine Gol.iload X32 hx hby d3_149 (pc' := 151) rfl rfl ?_
  refine Gol.iload X32 hx hby d3_151 (pc' := 153) rfl rfl ?_
  refine Gol.iastore X32 hx hby hZ e32 V_b12 d3_153 (pc' := 154) rfl ⟨by decide, by decide⟩ 0 rfl (Nat.le_of_ble_eq_true rfl) ?_
  intro T33 h33 X33 e33 W33 A33
  have V_b12 : Arv Z h33 b12 kb12 .int (64 : Int32) [(.int p3), (.int (0 : Int32))] (.int (0 : Int32)) := A33
  have E_r0 := E_r0.wr W33
  have F_r0_decided := F_r0_decided.other W33 (Or.inl ne_r0_b12)
  have F_r0_taken := F_r0_taken.other W33 (Or.inl ne_r0_b12)
  have F_r0_branchClass := F_r0_branchClass.other W33 (Or.inl ne_r0_b12)
  have F_r0_first := F_r0_first.other W33 (Or.inl ne_r0_b12)
  have F_r0_step := F_r0_step.other W33 (Or.inl ne_r0_b12)
  have F_r0_next := F_r0_next.other W33 (Or.inl ne_r0_b12)
  have F_r0_last := F_r0_last.other W33 (Or.inl ne_r0_b12)
  have F_r0_classServers := F_r0_classServers.other W33 (Or.inl ne_r0_b12)
  have F_r0_allClasses := F_r0_allClasses.other W33 (Or.inl ne_r0_b12)
  have F_r0_depth := F_r0_depth.other W33 (Or.inl ne_r0_b12)
  have V_d := V_d.other W33 ne_d_b12
  have V_t := V_t.other W33 ne_t_b12
  have V_bc := V_bc.other W33 ne_bc_b12
  have V_fi := V_fi.other W33 ne_fi_b12
  have V_sp := V_sp.other W33 ne_sp_b12
  have V_nx := V_nx.other W33 ne_nx_b12
  have V_la := V_la.other W33 ne_la_b12
  have V_b15 := V_b15.other W33 ne_b12_b15.symm
  have V_b18 := V_b18.other W33 ne_b12_b18.symm
  have V_b21 := V_b21.other W33 ne_b12_b21.symm
  have V_b24 := V_b24.other W33 ne_b12_b24.symm
  have V_b6 := V_b6.other W33 ne_b6_b12
  have V_b9 := V_b9.other W33 ne_b9_b12
  have K := K.wr W33 (Or.inr sz_b12)
  have Zs := Nat.le_trans Zs (Keep.of_wr W33).1
  have N33 := Fr.snoc X33 N31 g_b12
  refine Gol.aloadN X33 hx hby d3_154 (pc' := 155) rfl rfl rfl ?_
  refine Gol.getF X33 hx hby hZ hown (host := "") (Or.inl (hw _ (List.mem_of_getElem? (i := 17) rfl))) Via.refl e33 F_r0_first d3_155 (pc' := 158) rfl ?_
  intro T34 X34 e34
  refine Gol.iload X34 hx hby d3_158 (pc' := 160) rfl rfl ?_
  refine Gol.iload X34 hx hby d3_160 (pc' := 162) rfl rfl ?_
  refine Gol.iastore X34 hx hby hZ e34 V_b15 d3_162 (pc' := 163) rfl ⟨by decide, by decide⟩ 0 rfl (Nat.le_of_ble_eq_true rfl) ?_
  intro T35 h35 X35 e35 W35 A35
  have V_b15 : Arv Z h35 b15 kb15 .int (64 : Int32) [(.int p4), (.int (0 : Int32))] (.int (0 : Int32)) := A35
  have E_r0 := E_r0.wr W35
  have F_r0_decided := F_r0_decided.other W35 (Or.inl ne_r0_b15)
  have F_r0_taken := F_r0_taken.other W35 (Or.inl ne_r0_b15)
  have F_r0_branchClass := F_r0_branchClass.other W35 (Or.inl ne_r0_b15)
  have F_r0_first := F_r0_first.other W35 (Or.inl ne_r0_b15)
  have F_r0_step := F_r0_step.other W35 (Or.inl ne_r0_b15)
  have F_r0_next := F_r0_next.other W35 (Or.inl ne_r0_b15)
  have F_r0_last := F_r0_last.other W35 (Or.inl ne_r0_b15)
  have F_r0_classServers := F_r0_classServers.other W35 (Or.inl ne_r0_b15)
  have F_r0_allClasses := F_r0_allClasses.other W35 (Or.inl ne_r0_b15)
  have F_r0_depth := F_r0_depth.other W35 (Or.inl ne_r0_b15)
  have V_d := V_d.other W35 ne_d_b15
  have V_t := V_t.other W35 ne_t_b15
  have V_bc := V_bc.other W35 ne_bc_b15
  have V_fi := V_fi.other W35 ne_fi_b15
  have V_sp := V_sp.other W35 ne_sp_b15
  have V_nx := V_nx.other W35 ne_nx_b15
  have V_la := V_la.other W35 ne_la_b15
  have V_b18 := V_b18.other W35 ne_b15_b18.symm
  have V_b21 := V_b21.other W35 ne_b15_b21.symm
  have V_b24 := V_b24.other W35 ne_b15_b24.symm
  have V_b6 := V_b6.other W35 ne_b6_b15
  have V_b9 := V_b9.other W35 ne_b9_b15
  have V_b12 := V_b12.other W35 ne_b12_b15
  have K := K.wr W35 (Or.inr sz_b15)
  have Zs := Nat.le_trans Zs (Keep.of_wr W35).1
  have N35 := Fr.snoc X35 N33 g_b15
  refine Gol.aloadN X35 hx hby d3_163 (pc' := 164) rfl rfl rfl ?_
  refine Gol.getF X35 hx hby hZ hown (host := "") (Or.inl (hw _ (List.mem_of_getElem? (i := 19) rfl))) Via.refl e35 F_r0_step d3_164 (pc' := 167) rfl ?_
  intro T36 X36 e36
  refine Gol.iload X36 hx hby d3_167 (pc' := 169) rfl rfl ?_
  refine Gol.iload X36 hx hby d3_169 (pc' := 171) rfl rfl ?_
  refine Gol.iastore X36 hx hby hZ e36 V_b18 d3_171 (pc' := 172) rfl ⟨by decide, by decide⟩ 0 rfl (Nat.le_of_ble_eq_true rfl) ?_
  intro T37 h37 X37 e37 W37 A37
  have V_b18 : Arv Z h37 b18 kb18 .int (64 : Int32) [(.int p5), (.int (0 : Int32))] (.int (0 : Int32)) := A37
  have E_r0 := E_r0.wr W37
  have F_r0_decided := F_r0_decided.other W37 (Or.inl ne_r0_b18)
  have F_r0_taken := F_r0_taken.other W37 (Or.inl ne_r0_b18)
  have F_r0_branchClass := F_r0_branchClass.other W37 (Or.inl ne_r0_b18)
  have F_r0_first := F_r0_first.other W37 (Or.inl ne_r0_b18)
  have F_r0_step := F_r0_step.other W37 (Or.inl ne_r0_b18)
  have F_r0_next := F_r0_next.other W37 (Or.inl ne_r0_b18)
  have F_r0_last := F_r0_last.other W37 (Or.inl ne_r0_b18)
  have F_r0_classServers := F_r0_classServers.other W37 (Or.inl ne_r0_b18)
  have F_r0_allClasses := F_r0_allClasses.other W37 (Or.inl ne_r0_b18)
  have F_r0_depth := F_r0_depth.other W37 (Or.inl ne_r0_b18)
  have V_d := V_d.other W37 ne_d_b18
  have V_t := V_t.other W37 ne_t_b18
  have V_bc := V_bc.other W37 ne_bc_b18
  have V_fi := V_fi.other W37 ne_fi_b18
  have V_sp := V_sp.other W37 ne_sp_b18
  have V_nx := V_nx.other W37 ne_nx_b18
  have V_la := V_la.other W37 ne_la_b18
  have V_b21 := V_b21.other W37 ne_b18_b21.symm
  have V_b24 := V_b24.other W37 ne_b18_b24.symm
  have V_b6 := V_b6.other W37 ne_b6_b18
  have V_b9 := V_b9.other W37 ne_b9_b18
  have V_b12 := V_b12.other W37 ne_b12_b18
  have V_b15 := V_b15.other W37 ne_b15_b18
  have K := K.wr W37 (Or.inr sz_b18)
  have Zs := Nat.le_trans Zs (Keep.of_wr W37).1
  have N37 := Fr.snoc X37 N35 g_b18
  refine Gol.aloadN X37 hx hby d3_172 (pc' := 173) rfl rfl rfl ?_
  refine Gol.getF X37 hx hby hZ hown (host := "") (Or.inl (hw _ (List.mem_of_getElem? (i := 21) rfl))) Via.refl e37 F_r0_next d3_173 (pc' := 176) rfl ?_
  intro T38 X38 e38
  refine Gol.iload X38 hx hby d3_176 (pc' := 178) rfl rfl ?_
  refine Gol.iconst X38 hx hby d3_178 (pc' := 179) rfl (z := (0 : Int32)) rfl ?_
  refine Gol.iastore X38 hx hby hZ e38 V_b21 d3_179 (pc' := 180) rfl ⟨by decide, by decide⟩ 0 rfl (Nat.le_of_ble_eq_true rfl) ?_
  intro T39 h39 X39 e39 W39 A39
  have V_b21 : Arv Z h39 b21 kb21 .int (64 : Int32) [(.int (0 : Int32)), (.int (0 : Int32))] (.int (0 : Int32)) := A39
  have E_r0 := E_r0.wr W39
  have F_r0_decided := F_r0_decided.other W39 (Or.inl ne_r0_b21)
  have F_r0_taken := F_r0_taken.other W39 (Or.inl ne_r0_b21)
  have F_r0_branchClass := F_r0_branchClass.other W39 (Or.inl ne_r0_b21)
  have F_r0_first := F_r0_first.other W39 (Or.inl ne_r0_b21)
  have F_r0_step := F_r0_step.other W39 (Or.inl ne_r0_b21)
  have F_r0_next := F_r0_next.other W39 (Or.inl ne_r0_b21)
  have F_r0_last := F_r0_last.other W39 (Or.inl ne_r0_b21)
  have F_r0_classServers := F_r0_classServers.other W39 (Or.inl ne_r0_b21)
  have F_r0_allClasses := F_r0_allClasses.other W39 (Or.inl ne_r0_b21)
  have F_r0_depth := F_r0_depth.other W39 (Or.inl ne_r0_b21)
  have V_d := V_d.other W39 ne_d_b21
  have V_t := V_t.other W39 ne_t_b21
  have V_bc := V_bc.other W39 ne_bc_b21
  have V_fi := V_fi.other W39 ne_fi_b21
  have V_sp := V_sp.other W39 ne_sp_b21
  have V_nx := V_nx.other W39 ne_nx_b21
  have V_la := V_la.other W39 ne_la_b21
  have V_b24 := V_b24.other W39 ne_b21_b24.symm
  have V_b6 := V_b6.other W39 ne_b6_b21
  have V_b9 := V_b9.other W39 ne_b9_b21
  have V_b12 := V_b12.other W39 ne_b12_b21
  have V_b15 := V_b15.other W39 ne_b15_b21
  have V_b18 := V_b18.other W39 ne_b18_b21
  have K := K.wr W39 (Or.inr sz_b21)
  have Zs := Nat.le_trans Zs (Keep.of_wr W39).1
  have N39 := Fr.snoc X39 N37 g_b21
  refine Gol.aloadN X39 hx hby d3_180 (pc' := 181) rfl rfl rfl ?_
  refine Gol.getF X39 hx hby hZ hown (host := "") (Or.inl (hw _ (List.mem_of_getElem? (i := 23) rfl))) Via.refl e39 F_r0_last d3_181 (pc' := 184) rfl ?_
  intro T40 X40 e40
  refine Gol.iload X40 hx hby d3_184 (pc' := 186) rfl rfl ?_
  refine Gol.iload X40 hx hby d3_186 (pc' := 188) rfl rfl ?_
  refine Gol.iconst X40 hx hby d3_188 (pc' := 189) rfl (z := (1 : Int32)) rfl ?_
  refine Gol.isub X40 hx hby d3_189 (pc' := 190) rfl rfl ?_
  refine Gol.iastore X40 hx hby hZ e40 V_b24 d3_190 (pc' := 191) rfl ⟨by decide, by decide⟩ 0 rfl (Nat.le_of_ble_eq_true rfl) ?_
  intro T41 h41 X41 e41 W41 A41
  have V_b24 : Arv Z h41 b24 kb24 .int (64 : Int32) [(.int (p6 - (1 : Int32))), (.int (0 : Int32))] (.int (0 : Int32)) := A41
  have E_r0 := E_r0.wr W41
  have F_r0_decided := F_r0_decided.other W41 (Or.inl ne_r0_b24)
  have F_r0_taken := F_r0_taken.other W41 (Or.inl ne_r0_b24)
  have F_r0_branchClass := F_r0_branchClass.other W41 (Or.inl ne_r0_b24)
  have F_r0_first := F_r0_first.other W41 (Or.inl ne_r0_b24)
  have F_r0_step := F_r0_step.other W41 (Or.inl ne_r0_b24)
  have F_r0_next := F_r0_next.other W41 (Or.inl ne_r0_b24)
  have F_r0_last := F_r0_last.other W41 (Or.inl ne_r0_b24)
  have F_r0_classServers := F_r0_classServers.other W41 (Or.inl ne_r0_b24)
  have F_r0_allClasses := F_r0_allClasses.other W41 (Or.inl ne_r0_b24)
  have F_r0_depth := F_r0_depth.other W41 (Or.inl ne_r0_b24)
  have V_d := V_d.other W41 ne_d_b24
  have V_t := V_t.other W41 ne_t_b24
  have V_bc := V_bc.other W41 ne_bc_b24
  have V_fi := V_fi.other W41 ne_fi_b24
  have V_sp := V_sp.other W41 ne_sp_b24
  have V_nx := V_nx.other W41 ne_nx_b24
  have V_la := V_la.other W41 ne_la_b24
  have V_b6 := V_b6.other W41 ne_b6_b24
  have V_b9 := V_b9.other W41 ne_b9_b24
  have V_b12 := V_b12.other W41 ne_b12_b24
  have V_b15 := V_b15.other W41 ne_b15_b24
  have V_b18 := V_b18.other W41 ne_b18_b24
  have V_b21 := V_b21.other W41 ne_b21_b24
  have K := K.wr W41 (Or.inr sz_b24)
  have Zs := Nat.le_trans Zs (Keep.of_wr W41).1
  have N41 := Fr.snoc X41 N39 g_b24
  refine Gol.iload X41 hx hby d3_191 (pc' := 193) rfl rfl ?_
  exact Gol.retI X41 hx hby Bd.returns Bd.notSynchronized d3_193 e41 ⟨rfl, N41, K.1, ⟨b6, b9, b12, b15, b18, b21, b24, kb6, kb9, kb12, kb15, kb18, kb21, kb24, v7, v8, ⟨E_r0, F_r0_decided, F_r0_taken, F_r0_branchClass, F_r0_first, F_r0_step, F_r0_next, F_r0_last, F_r0_classServers, F_r0_allClasses, F_r0_depth⟩, V_b6, V_b9, V_b12, V_b15, V_b18, V_b21, V_b24, lo_r0_b6, lo_b6_b9, lo_b9_b12, lo_b12_b15, lo_b15_b18, lo_b18_b21, lo_b21_b24⟩⟩ (by decide) (by decide)
abbrev Q3b (Z : State) (r0 : Addr) (q1 : Int64) (q2 : Int64) (p3 : Int32) (p4 : Int32) (p5 : Int32) (p6 : Int32) (y0 : Value) (y1 : Value) (y2 : Value) (y3 : Value) (y4 : Value) (y5 : Value) (y6 : Value) (x0 : Value) (x1 : Value) (x2 : Value) (x3 : Value) (x4 : Value) (x5 : Value) (x6 : Value) (h0 : Heap) (n0 : Nat) (v : Option Value) (h : Heap) (L : List Loc) : Prop := v = some (.int (1 : Int32)) ∧ Fr n0 L ∧ h0.size ≤ h.size ∧ FrS Z h r0 (64 : Int32) (2 : Int32) [y0, (.long q1)] [y1, (.long q2)] [y2, (.int p3)] [y3, (.int p4)] [y4, (.int p5)] [y5, (.int (0 : Int32))] [y6, (.int (p6 - (1 : Int32)))]
set_option maxRecDepth 65536 in
set_option maxHeartbeats 40000000 in
theorem rm3b (l : Launch) (Z : State) (a0 : Array Value) (hw : ∀ d ∈ tables_1, d.before a0 Z = true) (ws : List Jvm.Cond) (r0 : Addr) (q1 : Int64) (q2 : Int64) (p3 : Int32) (p4 : Int32) (p5 : Int32) (p6 : Int32) (y0 : Value) (y1 : Value) (y2 : Value) (y3 : Value) (y4 : Value) (y5 : Value) (y6 : Value) (x0 : Value) (x1 : Value) (x2 : Value) (x3 : Value) (x4 : Value) (x5 : Value) (x6 : Value) (h0 : Heap) (n0 : Nat) (Z0 : n0 ≤ h0.size) (O0 : FrS Z h0 r0 (64 : Int32) (1 : Int32) [y0, x0] [y1, x1] [y2, x2] [y3, x3] [y4, x4] [y5, x5] [y6, x6]) (g_r0 : n0 ≤ r0) :
    MetFree l (⟨"com/example/quorumstone/quorumstone/check/Frames", "push", "(JJIIII)I"⟩ : MethodName) (head1 (Jvm.Cond.code (⟨"com/example/quorumstone/quorumstone/check/Frames", "push", "(JJIIII)I"⟩ : MethodName) prog_5_method_3_code 10 (some .int) :: ws) ({ frames := 0, cells := 0, slots := 0, locals := 0 } : Room)) (fun a U => a = #[(.ref r0), (.long q1), (.long q2), (.int p3), (.int p4), (.int p5), (.int p6)] ∧ Z.Warmed39 U.vm ∧ U.heap = h0) (fun _ _ _ _ _ => True) (fun _ U o U' => ∃ v L, o = .returned v ∧ Q3b Z r0 q1 q2 p3 p4 p5 p6 y0 y1 y2 y3 y4 y5 y6 x0 x1 x2 x3 x4 x5 x6 h0 n0 v U'.heap L ∧ FrameEnd U o U' L 0 0) := by
  refine MetFree.of_bodySF (plainFor_of_name pn_3) hisR ?_
  intro p ev s m args below meth c s₁ Bd hml0 hP hK
  obtain ⟨rfl, hZ, hh⟩ := hP
  have hx := Bd.exec
  have hby := Bd.bytes
  have hml : c.maxLocals = 10 := hml0
  have hown : s.vm.findClass "com/example/quorumstone/quorumstone/check/Frames" = some m.cls := findClass_of_methodNamed Bd.named
  have hnm := (name_of_methodNamed Bd.named Bd.method).1
  have X0 : Stand p l ev ({ frames := 0, cells := 0, slots := 0, locals := 0 } : Room) s m #[(.ref r0), (.long q1), (.long q2), (.int p3), (.int p4), (.int p5), (.int p6)] below meth c s₁ [] 0 0 := Stand.of_body Bd
  have eh0 : s₁.heap = h0 := by rw [← hh, Bd.state]; rfl
  have N0 := Fr.nil n0
  have Zs := Z0
  show Gol p ev below (FrameEnd s) (Q3b Z r0 q1 q2 p3 p4 p5 p6 y0 y1 y2 y3 y4 y5 y6 x0 x1 x2 x3 x4 x5 x6 h0 n0) 0 0 (s₁.setTop (entryFrame m #[(.ref r0), (.long q1), (.long q2), (.int p3), (.int p4), (.int p5), (.int p6)] 10))
  rw [ef_3]
  obtain ⟨d, t, bc, fi, sp, nx, la, kd, kt, kbc, kfi, ksp, knx, kla, v7, v8, O1, V_d, V_t, V_bc, V_fi, V_sp, V_nx, V_la, lo_r0_d, lo_d_t, lo_t_bc, lo_bc_fi, lo_fi_sp, lo_sp_nx, lo_nx_la⟩ := O0
  obtain ⟨E_r0, F_r0_decided, F_r0_taken, F_r0_branchClass, F_r0_first, F_r0_step, F_r0_next, F_r0_last, F_r0_classServers, F_r0_allClasses, F_r0_depth⟩ := O1
  have ne_r0_d : r0 ≠ d := Nat.ne_of_lt lo_r0_d
  have lo_r0_t := Nat.lt_trans lo_r0_d lo_d_t
  have ne_r0_t : r0 ≠ t := Nat.ne_of_lt lo_r0_t
  have ne_d_t : d ≠ t := Nat.ne_of_lt lo_d_t
  have lo_r0_bc := Nat.lt_trans lo_r0_t lo_t_bc
  have ne_r0_bc : r0 ≠ bc := Nat.ne_of_lt lo_r0_bc
  have lo_d_bc := Nat.lt_trans lo_d_t lo_t_bc
  have ne_d_bc : d ≠ bc := Nat.ne_of_lt lo_d_bc
  have ne_t_bc : t ≠ bc := Nat.ne_of_lt lo_t_bc
  have lo_r0_fi := Nat.lt_trans lo_r0_bc lo_bc_fi
  have ne_r0_fi : r0 ≠ fi := Nat.ne_of_lt lo_r0_fi
  have lo_d_fi := Nat.lt_trans lo_d_bc lo_bc_fi
  have ne_d_fi : d ≠ fi := Nat.ne_of_lt lo_d_fi
  have lo_t_fi := Nat.lt_trans lo_t_bc lo_bc_fi
  have ne_t_fi : t ≠ fi := Nat.ne_of_lt lo_t_fi
  have ne_bc_fi : bc ≠ fi := Nat.ne_of_lt lo_bc_fi
  have lo_r0_sp := Nat.lt_trans lo_r0_fi lo_fi_sp
  have ne_r0_sp : r0 ≠ sp := Nat.ne_of_lt lo_r0_sp
  have lo_d_sp := Nat.lt_trans lo_d_fi lo_fi_sp
  have ne_d_sp : d ≠ sp := Nat.ne_of_lt lo_d_sp
  have lo_t_sp := Nat.lt_trans lo_t_fi lo_fi_sp
  have ne_t_sp : t ≠ sp := Nat.ne_of_lt lo_t_sp
  have lo_bc_sp := Nat.lt_trans lo_bc_fi lo_fi_sp
  have ne_bc_sp : bc ≠ sp := Nat.ne_of_lt lo_bc_sp
  have ne_fi_sp : fi ≠ sp := Nat.ne_of_lt lo_fi_sp
  have lo_r0_nx := Nat.lt_trans lo_r0_sp lo_sp_nx
  have ne_r0_nx : r0 ≠ nx := Nat.ne_of_lt lo_r0_nx
  have lo_d_nx := Nat.lt_trans lo_d_sp lo_sp_nx
  have ne_d_nx : d ≠ nx := Nat.ne_of_lt lo_d_nx
  have lo_t_nx := Nat.lt_trans lo_t_sp lo_sp_nx
  have ne_t_nx : t ≠ nx := Nat.ne_of_lt lo_t_nx
  have lo_bc_nx := Nat.lt_trans lo_bc_sp lo_sp_nx
  have ne_bc_nx : bc ≠ nx := Nat.ne_of_lt lo_bc_nx
  have lo_fi_nx := Nat.lt_trans lo_fi_sp lo_sp_nx
  have ne_fi_nx : fi ≠ nx := Nat.ne_of_lt lo_fi_nx
  have ne_sp_nx : sp ≠ nx := Nat.ne_of_lt lo_sp_nx
  have lo_r0_la := Nat.lt_trans lo_r0_nx lo_nx_la
  have ne_r0_la : r0 ≠ la := Nat.ne_of_lt lo_r0_la
  have lo_d_la := Nat.lt_trans lo_d_nx lo_nx_la
  have ne_d_la : d ≠ la := Nat.ne_of_lt lo_d_la
  have lo_t_la := Nat.lt_trans lo_t_nx lo_nx_la
  have ne_t_la : t ≠ la := Nat.ne_of_lt lo_t_la
  have lo_bc_la := Nat.lt_trans lo_bc_nx lo_nx_la
  have ne_bc_la : bc ≠ la := Nat.ne_of_lt lo_bc_la
  have lo_fi_la := Nat.lt_trans lo_fi_nx lo_nx_la
  have ne_fi_la : fi ≠ la := Nat.ne_of_lt lo_fi_la
  have lo_sp_la := Nat.lt_trans lo_sp_nx lo_nx_la
  have ne_sp_la : sp ≠ la := Nat.ne_of_lt lo_sp_la
  have ne_nx_la : nx ≠ la := Nat.ne_of_lt lo_nx_la
  have g_d : n0 ≤ d := Nat.le_trans g_r0 (Nat.le_of_lt lo_r0_d)
  have g_t : n0 ≤ t := Nat.le_trans g_r0 (Nat.le_of_lt lo_r0_t)
  have g_bc : n0 ≤ bc := Nat.le_trans g_r0 (Nat.le_of_lt lo_r0_bc)
  have g_fi : n0 ≤ fi := Nat.le_trans g_r0 (Nat.le_of_lt lo_r0_fi)
  have g_sp : n0 ≤ sp := Nat.le_trans g_r0 (Nat.le_of_lt lo_r0_sp)
  have g_nx : n0 ≤ nx := Nat.le_trans g_r0 (Nat.le_of_lt lo_r0_nx)
  have g_la : n0 ≤ la := Nat.le_trans g_r0 (Nat.le_of_lt lo_r0_la)
  have K := Keep.refl h0 [r0, d, t, bc, fi, sp, nx, la]
  show GolF _ _ _ _ _ _ _ s₁ m 0 #[.val (.ref r0), .val (.long q1), .second, .val (.long q2), .second, .val (.int p3), .val (.int p4), .val (.int p5), .val (.int p6), .unset] []
  refine Gol.aloadN X0 hx hby d3_0 (pc' := 1) rfl rfl rfl ?_
  refine Gol.getF X0 hx hby hZ hown (host := "") (Or.inl (hw _ (List.mem_of_getElem? (i := 34) rfl))) Via.refl eh0 F_r0_depth d3_1 (pc' := 4) rfl ?_
  intro T1 X1 e1
  refine Gol.aloadN X1 hx hby d3_4 (pc' := 5) rfl rfl rfl ?_
  refine Gol.getF X1 hx hby hZ hown (host := "") (Or.inl (hw _ (List.mem_of_getElem? (i := 21) rfl))) Via.refl e1 F_r0_next d3_5 (pc' := 8) rfl ?_
  intro T2 X2 e2
  refine Gol.alen X2 hx hby hZ e2 V_nx d3_8 (pc' := 9) rfl ?_
  refine Gol.icmpYes X2 hx hby d3_9 (pc' := 116) (by decide) (feq (by decide : ¬ ((1 : Int32) = (64 : Int32)))).2 ?_
  refine Gol.aloadN X2 hx hby d3_116 (pc' := 117) rfl rfl rfl ?_
  refine Gol.dup X2 hx hby d3_117 (pc' := 118) rfl rfl ?_
  refine Gol.getF X2 hx hby hZ hown (host := "") (Or.inl (hw _ (List.mem_of_getElem? (i := 34) rfl))) Via.refl e2 F_r0_depth d3_118 (pc' := 121) rfl ?_
  intro T3 X3 e3
  refine Gol.dupX1 X3 hx hby d3_121 (pc' := 122) rfl rfl rfl ?_
  refine Gol.iconst X3 hx hby d3_122 (pc' := 123) rfl (z := (1 : Int32)) rfl ?_
  refine Gol.iadd X3 hx hby d3_123 (pc' := 124) rfl (z := (2 : Int32)) rfl ?_
  refine Gol.putF X3 hx hby hZ hown (host := "") (Or.inl (hw _ (List.mem_of_getElem? (i := 34) rfl))) Via.refl e3 F_r0_depth E_r0 (Or.inl (hw _ (List.mem_of_getElem? (i := 35) rfl))) (hw _ (List.mem_of_getElem? (i := 1) rfl)) (ty := .int) (by decide) rfl rfl d3_124 (pc' := 127) rfl ?_
  intro T4 h4 X4 e4 W4
  have E_r0 := E_r0.wr W4
  have F_r0_decided := F_r0_decided.other W4 (Or.inr (slot_ne (Or.inl (hw _ (List.mem_of_getElem? (i := 11) rfl))) (Or.inl (hw _ (List.mem_of_getElem? (i := 35) rfl))) (by decide) (t := (.array .long)) (t' := .int) (by decide) (by decide)))
  have F_r0_taken := F_r0_taken.other W4 (Or.inr (slot_ne (Or.inl (hw _ (List.mem_of_getElem? (i := 13) rfl))) (Or.inl (hw _ (List.mem_of_getElem? (i := 35) rfl))) (by decide) (t := (.array .long)) (t' := .int) (by decide) (by decide)))
  have F_r0_branchClass := F_r0_branchClass.other W4 (Or.inr (slot_ne (Or.inl (hw _ (List.mem_of_getElem? (i := 16) rfl))) (Or.inl (hw _ (List.mem_of_getElem? (i := 35) rfl))) (by decide) (t := (.array .int)) (t' := .int) (by decide) (by decide)))
  have F_r0_first := F_r0_first.other W4 (Or.inr (slot_ne (Or.inl (hw _ (List.mem_of_getElem? (i := 18) rfl))) (Or.inl (hw _ (List.mem_of_getElem? (i := 35) rfl))) (by decide) (t := (.array .int)) (t' := .int) (by decide) (by decide)))
  have F_r0_step := F_r0_step.other W4 (Or.inr (slot_ne (Or.inl (hw _ (List.mem_of_getElem? (i := 20) rfl))) (Or.inl (hw _ (List.mem_of_getElem? (i := 35) rfl))) (by decide) (t := (.array .int)) (t' := .int) (by decide) (by decide)))
  have F_r0_next := F_r0_next.other W4 (Or.inr (slot_ne (Or.inl (hw _ (List.mem_of_getElem? (i := 22) rfl))) (Or.inl (hw _ (List.mem_of_getElem? (i := 35) rfl))) (by decide) (t := (.array .int)) (t' := .int) (by decide) (by decide)))
  have F_r0_last := F_r0_last.other W4 (Or.inr (slot_ne (Or.inl (hw _ (List.mem_of_getElem? (i := 24) rfl))) (Or.inl (hw _ (List.mem_of_getElem? (i := 35) rfl))) (by decide) (t := (.array .int)) (t' := .int) (by decide) (by decide)))
  have F_r0_classServers := F_r0_classServers.other W4 (Or.inr (slot_ne (Or.inr (hw _ (List.mem_of_getElem? (i := 26) rfl))) (Or.inl (hw _ (List.mem_of_getElem? (i := 35) rfl))) (by decide) (t := (.array .long)) (t' := .int) (by decide) (by decide)))
  have F_r0_allClasses := F_r0_allClasses.other W4 (Or.inr (slot_ne (Or.inr (hw _ (List.mem_of_getElem? (i := 28) rfl))) (Or.inl (hw _ (List.mem_of_getElem? (i := 35) rfl))) (by decide) (t := .long) (t' := .int) (by decide) (by decide)))
  have F_r0_depth := F_r0_depth.same W4
  have V_d := V_d.other W4 ne_r0_d.symm
  have V_t := V_t.other W4 ne_r0_t.symm
  have V_bc := V_bc.other W4 ne_r0_bc.symm
  have V_fi := V_fi.other W4 ne_r0_fi.symm
  have V_sp := V_sp.other W4 ne_r0_sp.symm
  have V_nx := V_nx.other W4 ne_r0_nx.symm
  have V_la := V_la.other W4 ne_r0_la.symm
  have K := K.wr W4 (Or.inl (List.mem_of_getElem? (i := 0) rfl))
  have Zs := Nat.le_trans Zs (Keep.of_wr W4).1
  have N4 := Fr.snoc X4 N0 g_r0
  refine Gol.istore X4 hx hby d3_127 (pc' := 129) rfl (l' := #[.val (.ref r0), .val (.long q1), .second, .val (.long q2), .second, .val (.int p3), .val (.int p4), .val (.int p5), .val (.int p6), .val (.int (1 : Int32))]) rfl ?_
  refine Gol.aloadN X4 hx hby d3_129 (pc' := 130) rfl rfl rfl ?_
  refine Gol.getF X4 hx hby hZ hown (host := "") (Or.inl (hw _ (List.mem_of_getElem? (i := 10) rfl))) Via.refl e4 F_r0_decided d3_130 (pc' := 133) rfl ?_
  intro T5 X5 e5
  refine Gol.iload X5 hx hby d3_133 (pc' := 135) rfl rfl ?_
  refine Gol.lloadN X5 hx hby d3_135 (pc' := 136) rfl rfl ?_
  refine Gol.lastore X5 hx hby hZ e5 V_d d3_136 (pc' := 137) rfl ⟨by decide, by decide⟩ 1 rfl (Nat.le_of_ble_eq_true rfl) ?_
  intro T6 h6 X6 e6 W6 A6
  have V_d : Arv Z h6 d kd .long (64 : Int32) [y0, (.long q1)] (.long (0 : Int64)) := A6
  have E_r0 := E_r0.wr W6
  have F_r0_decided := F_r0_decided.other W6 (Or.inl ne_r0_d)
  have F_r0_taken := F_r0_taken.other W6 (Or.inl ne_r0_d)
  have F_r0_branchClass := F_r0_branchClass.other W6 (Or.inl ne_r0_d)
  have F_r0_first := F_r0_first.other W6 (Or.inl ne_r0_d)
  have F_r0_step := F_r0_step.other W6 (Or.inl ne_r0_d)
  have F_r0_next := F_r0_next.other W6 (Or.inl ne_r0_d)
  have F_r0_last := F_r0_last.other W6 (Or.inl ne_r0_d)
  have F_r0_classServers := F_r0_classServers.other W6 (Or.inl ne_r0_d)
  have F_r0_allClasses := F_r0_allClasses.other W6 (Or.inl ne_r0_d)
  have F_r0_depth := F_r0_depth.other W6 (Or.inl ne_r0_d)
  have V_t := V_t.other W6 ne_d_t.symm
  have V_bc := V_bc.other W6 ne_d_bc.symm
  have V_fi := V_fi.other W6 ne_d_fi.symm
  have V_sp := V_sp.other W6 ne_d_sp.symm
  have V_nx := V_nx.other W6 ne_d_nx.symm
  have V_la := V_la.other W6 ne_d_la.symm
  have K := K.wr W6 (Or.inl (List.mem_of_getElem? (i := 1) rfl))
  have Zs := Nat.le_trans Zs (Keep.of_wr W6).1
  have N6 := Fr.snoc X6 N4 g_d
  refine Gol.aloadN X6 hx hby d3_137 (pc' := 138) rfl rfl rfl ?_
  refine Gol.getF X6 hx hby hZ hown (host := "") (Or.inl (hw _ (List.mem_of_getElem? (i := 12) rfl))) Via.refl e6 F_r0_taken d3_138 (pc' := 141) rfl ?_
  intro T7 X7 e7
  refine Gol.iload X7 hx hby d3_141 (pc' := 143) rfl rfl ?_
  refine Gol.lloadN X7 hx hby d3_143 (pc' := 144) rfl rfl ?_
  refine Gol.lastore X7 hx hby hZ e7 V_t d3_144 (pc' := 145) rfl ⟨by decide, by decide⟩ 1 rfl (Nat.le_of_ble_eq_true rfl) ?_
  intro T8 h8 X8 e8 W8 A8
  have V_t : Arv Z h8 t kt .long (64 : Int32) [y1, (.long q2)] (.long (0 : Int64)) := A8
  have E_r0 := E_r0.wr W8
  have F_r0_decided := F_r0_decided.other W8 (Or.inl ne_r0_t)
  have F_r0_taken := F_r0_taken.other W8 (Or.inl ne_r0_t)
  have F_r0_branchClass := F_r0_branchClass.other W8 (Or.inl ne_r0_t)
  have F_r0_first := F_r0_first.other W8 (Or.inl ne_r0_t)
  have F_r0_step := F_r0_step.other W8 (Or.inl ne_r0_t)
  have F_r0_next := F_r0_next.other W8 (Or.inl ne_r0_t)
  have F_r0_last := F_r0_last.other W8 (Or.inl ne_r0_t)
  have F_r0_classServers := F_r0_classServers.other W8 (Or.inl ne_r0_t)
  have F_r0_allClasses := F_r0_allClasses.other W8 (Or.inl ne_r0_t)
  have F_r0_depth := F_r0_depth.other W8 (Or.inl ne_r0_t)
  have V_bc := V_bc.other W8 ne_t_bc.symm
  have V_fi := V_fi.other W8 ne_t_fi.symm
  have V_sp := V_sp.other W8 ne_t_sp.symm
  have V_nx := V_nx.other W8 ne_t_nx.symm
  have V_la := V_la.other W8 ne_t_la.symm
  have V_d := V_d.other W8 ne_d_t
  have K := K.wr W8 (Or.inl (List.mem_of_getElem? (i := 2) rfl))
  have Zs := Nat.le_trans Zs (Keep.of_wr W8).1
  have N8 := Fr.snoc X8 N6 g_t
  refine Gol.aloadN X8 hx hby d3_145 (pc' := 146) rfl rfl rfl ?_
  refine Gol.getF X8 hx hby hZ hown (host := "") (Or.inl (hw _ (List.mem_of_getElem? (i := 15) rfl))) Via.refl e8 F_r0_branchClass d3_146 (pc' := 149) rfl ?_
  intro T9 X9 e9
  refine Gol.iload X9 hx hby d3_149 (pc' := 151) rfl rfl ?_
  refine Gol.iload X9 hx hby d3_151 (pc' := 153) rfl rfl ?_
  refine Gol.iastore X9 hx hby hZ e9 V_bc d3_153 (pc' := 154) rfl ⟨by decide, by decide⟩ 1 rfl (Nat.le_of_ble_eq_true rfl) ?_
  intro T10 h10 X10 e10 W10 A10
  have V_bc : Arv Z h10 bc kbc .int (64 : Int32) [y2, (.int p3)] (.int (0 : Int32)) := A10
  have E_r0 := E_r0.wr W10
  have F_r0_decided := F_r0_decided.other W10 (Or.inl ne_r0_bc)
  have F_r0_taken := F_r0_taken.other W10 (Or.inl ne_r0_bc)
  have F_r0_branchClass := F_r0_branchClass.other W10 (Or.inl ne_r0_bc)
  have F_r0_first := F_r0_first.other W10 (Or.inl ne_r0_bc)
  have F_r0_step := F_r0_step.other W10 (Or.inl ne_r0_bc)
  have F_r0_next := F_r0_next.other W10 (Or.inl ne_r0_bc)
  have F_r0_last := F_r0_last.other W10 (Or.inl ne_r0_bc)
  have F_r0_classServers := F_r0_classServers.other W10 (Or.inl ne_r0_bc)
  have F_r0_allClasses := F_r0_allClasses.other W10 (Or.inl ne_r0_bc)
  have F_r0_depth := F_r0_depth.other W10 (Or.inl ne_r0_bc)
  have V_fi := V_fi.other W10 ne_bc_fi.symm
  have V_sp := V_sp.other W10 ne_bc_sp.symm
  have V_nx := V_nx.other W10 ne_bc_nx.symm
  have V_la := V_la.other W10 ne_bc_la.symm
  have V_d := V_d.other W10 ne_d_bc
  have V_t := V_t.other W10 ne_t_bc
  have K := K.wr W10 (Or.inl (List.mem_of_getElem? (i := 3) rfl))
  have Zs := Nat.le_trans Zs (Keep.of_wr W10).1
  have N10 := Fr.snoc X10 N8 g_bc
  refine Gol.aloadN X10 hx hby d3_154 (pc' := 155) rfl rfl rfl ?_
  refine Gol.getF X10 hx hby hZ hown (host := "") (Or.inl (hw _ (List.mem_of_getElem? (i := 17) rfl))) Via.refl e10 F_r0_first d3_155 (pc' := 158) rfl ?_
  intro T11 X11 e11
  refine Gol.iload X11 hx hby d3_158 (pc' := 160) rfl rfl ?_
  refine Gol.iload X11 hx hby d3_160 (pc' := 162) rfl rfl ?_
  refine Gol.iastore X11 hx hby hZ e11 V_fi d3_162 (pc' := 163) rfl ⟨by decide, by decide⟩ 1 rfl (Nat.le_of_ble_eq_true rfl) ?_
  intro T12 h12 X12 e12 W12 A12
  have V_fi : Arv Z h12 fi kfi .int (64 : Int32) [y3, (.int p4)] (.int (0 : Int32)) := A12
  have E_r0 := E_r0.wr W12
  have F_r0_decided := F_r0_decided.other W12 (Or.inl ne_r0_fi)
  have F_r0_taken := F_r0_taken.other W12 (Or.inl ne_r0_fi)
  have F_r0_branchClass := F_r0_branchClass.other W12 (Or.inl ne_r0_fi)
  have F_r0_first := F_r0_first.other W12 (Or.inl ne_r0_fi)
  have F_r0_step := F_r0_step.other W12 (Or.inl ne_r0_fi)
  have F_r0_next := F_r0_next.other W12 (Or.inl ne_r0_fi)
  have F_r0_last := F_r0_last.other W12 (Or.inl ne_r0_fi)
  have F_r0_classServers := F_r0_classServers.other W12 (Or.inl ne_r0_fi)
  have F_r0_allClasses := F_r0_allClasses.other W12 (Or.inl ne_r0_fi)
  have F_r0_depth := F_r0_depth.other W12 (Or.inl ne_r0_fi)
  have V_sp := V_sp.other W12 ne_fi_sp.symm
  have V_nx := V_nx.other W12 ne_fi_nx.symm
  have V_la := V_la.other W12 ne_fi_la.symm
  have V_d := V_d.other W12 ne_d_fi
  have V_t := V_t.other W12 ne_t_fi
  have V_bc := V_bc.other W12 ne_bc_fi
  have K := K.wr W12 (Or.inl (List.mem_of_getElem? (i := 4) rfl))
  have Zs := Nat.le_trans Zs (Keep.of_wr W12).1
  have N12 := Fr.snoc X12 N10 g_fi
  refine Gol.aloadN X12 hx hby d3_163 (pc' := 164) rfl rfl rfl ?_
  refine Gol.getF X12 hx hby hZ hown (host := "") (Or.inl (hw _ (List.mem_of_getElem? (i := 19) rfl))) Via.refl e12 F_r0_step d3_164 (pc' := 167) rfl ?_
  intro T13 X13 e13
  refine Gol.iload X13 hx hby d3_167 (pc' := 169) rfl rfl ?_
  refine Gol.iload X13 hx hby d3_169 (pc' := 171) rfl rfl ?_
  refine Gol.iastore X13 hx hby hZ e13 V_sp d3_171 (pc' := 172) rfl ⟨by decide, by decide⟩ 1 rfl (Nat.le_of_ble_eq_true rfl) ?_
  intro T14 h14 X14 e14 W14 A14
  have V_sp : Arv Z h14 sp ksp .int (64 : Int32) [y4, (.int p5)] (.int (0 : Int32)) := A14
  have E_r0 := E_r0.wr W14
  have F_r0_decided := F_r0_decided.other W14 (Or.inl ne_r0_sp)
  have F_r0_taken := F_r0_taken.other W14 (Or.inl ne_r0_sp)
  have F_r0_branchClass := F_r0_branchClass.other W14 (Or.inl ne_r0_sp)
  have F_r0_first := F_r0_first.other W14 (Or.inl ne_r0_sp)
  have F_r0_step := F_r0_step.other W14 (Or.inl ne_r0_sp)
  have F_r0_next := F_r0_next.other W14 (Or.inl ne_r0_sp)
  have F_r0_last := F_r0_last.other W14 (Or.inl ne_r0_sp)
  have F_r0_classServers := F_r0_classServers.other W14 (Or.inl ne_r0_sp)
  have F_r0_allClasses := F_r0_allClasses.other W14 (Or.inl ne_r0_sp)
  have F_r0_depth := F_r0_depth.other W14 (Or.inl ne_r0_sp)
  have V_nx := V_nx.other W14 ne_sp_nx.symm
  have V_la := V_la.other W14 ne_sp_la.symm
  have V_d := V_d.other W14 ne_d_sp
  have V_t := V_t.other W14 ne_t_sp
  have V_bc := V_bc.other W14 ne_bc_sp
  have V_fi := V_fi.other W14 ne_fi_sp
  have K := K.wr W14 (Or.inl (List.mem_of_getElem? (i := 5) rfl))
  have Zs := Nat.le_trans Zs (Keep.of_wr W14).1
  have N14 := Fr.snoc X14 N12 g_sp
  refine Gol.aloadN X14 hx hby d3_172 (pc' := 173) rfl rfl rfl ?_
  refine Gol.getF X14 hx hby hZ hown (host := "") (Or.inl (hw _ (List.mem_of_getElem? (i := 21) rfl))) Via.refl e14 F_r0_next d3_173 (pc' := 176) rfl ?_
  intro T15 X15 e15
  refine Gol.iload X15 hx hby d3_176 (pc' := 178) rfl rfl ?_
  refine Gol.iconst X15 hx hby d3_178 (pc' := 179) rfl (z := (0 : Int32)) rfl ?_
  refine Gol.iastore X15 hx hby hZ e15 V_nx d3_179 (pc' := 180) rfl ⟨by decide, by decide⟩ 1 rfl (Nat.le_of_ble_eq_true rfl) ?_
  intro T16 h16 X16 e16 W16 A16
  have V_nx : Arv Z h16 nx knx .int (64 : Int32) [y5, (.int (0 : Int32))] (.int (0 : Int32)) := A16
  have E_r0 := E_r0.wr W16
  have F_r0_decided := F_r0_decided.other W16 (Or.inl ne_r0_nx)
  have F_r0_taken := F_r0_taken.other W16 (Or.inl ne_r0_nx)
  have F_r0_branchClass := F_r0_branchClass.other W16 (Or.inl ne_r0_nx)
  have F_r0_first := F_r0_first.other W16 (Or.inl ne_r0_nx)
  have F_r0_step := F_r0_step.other W16 (Or.inl ne_r0_nx)
  have F_r0_next := F_r0_next.other W16 (Or.inl ne_r0_nx)
  have F_r0_last := F_r0_last.other W16 (Or.inl ne_r0_nx)
  have F_r0_classServers := F_r0_classServers.other W16 (Or.inl ne_r0_nx)
  have F_r0_allClasses := F_r0_allClasses.other W16 (Or.inl ne_r0_nx)
  have F_r0_depth := F_r0_depth.other W16 (Or.inl ne_r0_nx)
  have V_la := V_la.other W16 ne_nx_la.symm
  have V_d := V_d.other W16 ne_d_nx
  have V_t := V_t.other W16 ne_t_nx
  have V_bc := V_bc.other W16 ne_bc_nx
  have V_fi := V_fi.other W16 ne_fi_nx
  have V_sp := V_sp.other W16 ne_sp_nx
  have K := K.wr W16 (Or.inl (List.mem_of_getElem? (i := 6) rfl))
  have Zs := Nat.le_trans Zs (Keep.of_wr W16).1
  have N16 := Fr.snoc X16 N14 g_nx
  refine Gol.aloadN X16 hx hby d3_180 (pc' := 181) rfl rfl rfl ?_
  refine Gol.getF X16 hx hby hZ hown (host := "") (Or.inl (hw _ (List.mem_of_getElem? (i := 23) rfl))) Via.refl e16 F_r0_last d3_181 (pc' := 184) rfl ?_
  intro T17 X17 e17
  refine Gol.iload X17 hx hby d3_184 (pc' := 186) rfl rfl ?_
  refine Gol.iload X17 hx hby d3_186 (pc' := 188) rfl rfl ?_
  refine Gol.iconst X17 hx hby d3_188 (pc' := 189) rfl (z := (1 : Int32)) rfl ?_
  refine Gol.isub X17 hx hby d3_189 (pc' := 190) rfl rfl ?_
  refine Gol.iastore X17 hx hby hZ e17 V_la d3_190 (pc' := 191) rfl ⟨by decide, by decide⟩ 1 rfl (Nat.le_of_ble_eq_true rfl) ?_
  intro T18 h18 X18 e18 W18 A18
  have V_la : Arv Z h18 la kla .int (64 : Int32) [y6, (.int (p6 - (1 : Int32)))] (.int (0 : Int32)) := A18
  have E_r0 := E_r0.wr W18
  have F_r0_decided := F_r0_decided.other W18 (Or.inl ne_r0_la)
  have F_r0_taken := F_r0_taken.other W18 (Or.inl ne_r0_la)
  have F_r0_branchClass := F_r0_branchClass.other W18 (Or.inl ne_r0_la)
  have F_r0_first := F_r0_first.other W18 (Or.inl ne_r0_la)
  have F_r0_step := F_r0_step.other W18 (Or.inl ne_r0_la)
  have F_r0_next := F_r0_next.other W18 (Or.inl ne_r0_la)
  have F_r0_last := F_r0_last.other W18 (Or.inl ne_r0_la)
  have F_r0_classServers := F_r0_classServers.other W18 (Or.inl ne_r0_la)
  have F_r0_allClasses := F_r0_allClasses.other W18 (Or.inl ne_r0_la)
  have F_r0_depth := F_r0_depth.other W18 (Or.inl ne_r0_la)
  have V_d := V_d.other W18 ne_d_la
  have V_t := V_t.other W18 ne_t_la
  have V_bc := V_bc.other W18 ne_bc_la
  have V_fi := V_fi.other W18 ne_fi_la
  have V_sp := V_sp.other W18 ne_sp_la
  have V_nx := V_nx.other W18 ne_nx_la
  have K := K.wr W18 (Or.inl (List.mem_of_getElem? (i := 7) rfl))
  have Zs := Nat.le_trans Zs (Keep.of_wr W18).1
  have N18 := Fr.snoc X18 N16 g_la
  refine Gol.iload X18 hx hby d3_191 (pc' := 193) rfl rfl ?_
  exact Gol.retI X18 hx hby Bd.returns Bd.notSynchronized d3_193 e18 ⟨rfl, N18, K.1, ⟨d, t, bc, fi, sp, nx, la, kd, kt, kbc, kfi, ksp, knx, kla, v7, v8, ⟨E_r0, F_r0_decided, F_r0_taken, F_r0_branchClass, F_r0_first, F_r0_step, F_r0_next, F_r0_last, F_r0_classServers, F_r0_allClasses, F_r0_depth⟩, V_d, V_t, V_bc, V_fi, V_sp, V_nx, V_la, lo_r0_d, lo_d_t, lo_t_bc, lo_bc_fi, lo_fi_sp, lo_sp_nx, lo_nx_la⟩⟩ (by decide) (by decide)
theorem d8_0 : decode prog_5_method_4_code 0 = .ok (.iconst (-1), 1) := by decide +kernel
theorem d8_1 : decode prog_5_method_4_code 1 = .ok (.istore_n 2, 1) := by decide +kernel
theorem d8_2 : decode prog_5_method_4_code 2 = .ok (.aload_n 0, 1) := by decide +kernel
theorem d8_3 : decode prog_5_method_4_code 3 = .ok (.getfield 26, 3) := by decide +kernel
theorem d8_6 : decode prog_5_method_4_code 6 = .ok (.iload_n 1, 1) := by decide +kernel
theorem d8_7 : decode prog_5_method_4_code 7 = .ok (.iaload, 1) := by decide +kernel
theorem d8_8 : decode prog_5_method_4_code 8 = .ok (.aload_n 0, 1) := by decide +kernel
theorem d8_9 : decode prog_5_method_4_code 9 = .ok (.getfield 29, 3) := by decide +kernel
theorem d8_12 : decode prog_5_method_4_code 12 = .ok (.iload_n 1, 1) := by decide +kernel
theorem d8_13 : decode prog_5_method_4_code 13 = .ok (.iaload, 1) := by decide +kernel
theorem d8_14 : decode prog_5_method_4_code 14 = .ok (.if_icmp .gt 34, 3) := by decide +kernel
theorem d8_17 : decode prog_5_method_4_code 17 = .ok (.aload_n 0, 1) := by decide +kernel
theorem d8_18 : decode prog_5_method_4_code 18 = .ok (.getfield 20, 3) := by decide +kernel
theorem d8_21 : decode prog_5_method_4_code 21 = .ok (.iload_n 1, 1) := by decide +kernel
theorem d8_22 : decode prog_5_method_4_code 22 = .ok (.iaload, 1) := by decide +kernel
theorem d8_23 : decode prog_5_method_4_code 23 = .ok (.aload_n 0, 1) := by decide +kernel
theorem d8_24 : decode prog_5_method_4_code 24 = .ok (.getfield 26, 3) := by decide +kernel
theorem d8_27 : decode prog_5_method_4_code 27 = .ok (.iload_n 1, 1) := by decide +kernel
theorem d8_28 : decode prog_5_method_4_code 28 = .ok (.iaload, 1) := by decide +kernel
theorem d8_29 : decode prog_5_method_4_code 29 = .ok (.aload_n 0, 1) := by decide +kernel
theorem d8_30 : decode prog_5_method_4_code 30 = .ok (.getfield 23, 3) := by decide +kernel
theorem d8_33 : decode prog_5_method_4_code 33 = .ok (.iload_n 1, 1) := by decide +kernel
theorem d8_34 : decode prog_5_method_4_code 34 = .ok (.iaload, 1) := by decide +kernel
theorem d8_35 : decode prog_5_method_4_code 35 = .ok (.imul, 1) := by decide +kernel
theorem d8_36 : decode prog_5_method_4_code 36 = .ok (.iadd, 1) := by decide +kernel
theorem d8_37 : decode prog_5_method_4_code 37 = .ok (.istore_n 2, 1) := by decide +kernel
theorem d8_38 : decode prog_5_method_4_code 38 = .ok (.aload_n 0, 1) := by decide +kernel
theorem d8_39 : decode prog_5_method_4_code 39 = .ok (.getfield 26, 3) := by decide +kernel
theorem d8_42 : decode prog_5_method_4_code 42 = .ok (.iload_n 1, 1) := by decide +kernel
theorem d8_43 : decode prog_5_method_4_code 43 = .ok (.dup2, 1) := by decide +kernel
theorem d8_44 : decode prog_5_method_4_code 44 = .ok (.iaload, 1) := by decide +kernel
theorem d8_45 : decode prog_5_method_4_code 45 = .ok (.iconst 1, 1) := by decide +kernel
theorem d8_46 : decode prog_5_method_4_code 46 = .ok (.iadd, 1) := by decide +kernel
theorem d8_47 : decode prog_5_method_4_code 47 = .ok (.iastore, 1) := by decide +kernel
theorem d8_48 : decode prog_5_method_4_code 48 = .ok (.iload_n 2, 1) := by decide +kernel
theorem d8_49 : decode prog_5_method_4_code 49 = .ok (.ireturn, 1) := by decide +kernel
theorem pn_8 : plainName "com/example/quorumstone/quorumstone/check/Frames" = true := by first | (simp [plainName, overriddenIn]; done) | decide +kernel
theorem ef_8 (m : MethodId) (r0 : Addr) (p1 : Int32) : entryFrame m #[(.ref r0), (.int p1)] 3 = mkF m 0 #[.val (.ref r0), .val (.int p1), .unset] [] := by first | (simp [entryFrame, mkF, argsToLocals, Value.category]; done) | rfl
abbrev Q8_0 (Z : State) (r0 : Addr) (p1 : Int32) (dep : Int32) (ud : List Value) (ut : List Value) (ub : List Value) (f : Int32) (b : Int32) (n : Int32) (lz : Int32) (y1 : Value) (y2 : Value) (y3 : Value) (y4 : Value) (h0 : Heap) (n0 : Nat) (v : Option Value) (h : Heap) (L : List Loc) : Prop := v = some (.int (own_cnt f b n lz)) ∧ Fr n0 L ∧ h0.size ≤ h.size ∧ FrS Z h r0 (64 : Int32) dep ud ut ub [(.int f), y1] [(.int b), y2] [(.int (own_nx n lz)), y3] [(.int lz), y4]
set_option maxRecDepth 65536 in
set_option maxHeartbeats 40000000 in
theorem rm8_0 (l : Launch) (Z : State) (a0 : Array Value) (hw : ∀ d ∈ tables_1, d.before a0 Z = true) (ws : List Jvm.Cond) (r0 : Addr) (p1 : Int32) (dep : Int32) (ud : List Value) (ut : List Value) (ub : List Value) (f : Int32) (b : Int32) (n : Int32) (lz : Int32) (y1 : Value) (y2 : Value) (y3 : Value) (y4 : Value) (h0 : Heap) (n0 : Nat) (Z0 : n0 ≤ h0.size) (hp : p1 = (0 : Int32)) (O0 : FrS Z h0 r0 (64 : Int32) dep ud ut ub [(.int f), y1] [(.int b), y2] [(.int n), y3] [(.int lz), y4]) (g_r0 : n0 ≤ r0) :
    MetFree l (⟨"com/example/quorumstone/quorumstone/check/Frames", "nextCount", "(I)I"⟩ : MethodName) (head1 (Jvm.Cond.code (⟨"com/example/quorumstone/quorumstone/check/Frames", "nextCount", "(I)I"⟩ : MethodName) prog_5_method_4_code 3 (some .int) :: ws) ({ frames := 0, cells := 0, slots := 0, locals := 0 } : Room)) (fun a U => a = #[(.ref r0), (.int p1)] ∧ Z.Warmed39 U.vm ∧ U.heap = h0) (fun _ _ _ _ _ => True) (fun _ U o U' => ∃ v L, o = .returned v ∧ Q8_0 Z r0 p1 dep ud ut ub f b n lz y1 y2 y3 y4 h0 n0 v U'.heap L ∧ FrameEnd U o U' L 0 0) := by
  refine MetFree.of_bodySF (plainFor_of_name pn_8) hisR ?_
  intro p ev s m args below meth c s₁ Bd hml0 hP hK
  obtain ⟨rfl, hZ, hh⟩ := hP
  have hx := Bd.exec
  have hby := Bd.bytes
  have hml : c.maxLocals = 3 := hml0
  have hown : s.vm.findClass "com/example/quorumstone/quorumstone/check/Frames" = some m.cls := findClass_of_methodNamed Bd.named
  have hnm := (name_of_methodNamed Bd.named Bd.method).1
  have X0 : Stand p l ev ({ frames := 0, cells := 0, slots := 0, locals := 0 } : Room) s m #[(.ref r0), (.int p1)] below meth c s₁ [] 0 0 := Stand.of_body Bd
  have eh0 : s₁.heap = h0 := by rw [← hh, Bd.state]; rfl
  have N0 := Fr.nil n0
  have Zs := Z0
  show Gol p ev below (FrameEnd s) (Q8_0 Z r0 p1 dep ud ut ub f b n lz y1 y2 y3 y4 h0 n0) 0 0 (s₁.setTop (entryFrame m #[(.ref r0), (.int p1)] 3))
  rw [ef_8]
  subst hp
  obtain ⟨d, t, bc, fi, sp, nx, la, kd, kt, kbc, kfi, ksp, knx, kla, v7, v8, O1, V_d, V_t, V_bc, V_fi, V_sp, V_nx, V_la, lo_r0_d, lo_d_t, lo_t_bc, lo_bc_fi, lo_fi_sp, lo_sp_nx, lo_nx_la⟩ := O0
  obtain ⟨E_r0, F_r0_decided, F_r0_taken, F_r0_branchClass, F_r0_first, F_r0_step, F_r0_next, F_r0_last, F_r0_classServers, F_r0_allClasses, F_r0_depth⟩ := O1
  have ne_r0_d : r0 ≠ d := Nat.ne_of_lt lo_r0_d
  have lo_r0_t := Nat.lt_trans lo_r0_d lo_d_t
  have ne_r0_t : r0 ≠ t := Nat.ne_of_lt lo_r0_t
  have ne_d_t : d ≠ t := Nat.ne_of_lt lo_d_t
  have lo_r0_bc := Nat.lt_trans lo_r0_t lo_t_bc
  have ne_r0_bc : r0 ≠ bc := Nat.ne_of_lt lo_r0_bc
  have lo_d_bc := Nat.lt_trans lo_d_t lo_t_bc
  have ne_d_bc : d ≠ bc := Nat.ne_of_lt lo_d_bc
  have ne_t_bc : t ≠ bc := Nat.ne_of_lt lo_t_bc
  have lo_r0_fi := Nat.lt_trans lo_r0_bc lo_bc_fi
  have ne_r0_fi : r0 ≠ fi := Nat.ne_of_lt lo_r0_fi
  have lo_d_fi := Nat.lt_trans lo_d_bc lo_bc_fi
  have ne_d_fi : d ≠ fi := Nat.ne_of_lt lo_d_fi
  have lo_t_fi := Nat.lt_trans lo_t_bc lo_bc_fi
  have ne_t_fi : t ≠ fi := Nat.ne_of_lt lo_t_fi
  have ne_bc_fi : bc ≠ fi := Nat.ne_of_lt lo_bc_fi
  have lo_r0_sp := Nat.lt_trans lo_r0_fi lo_fi_sp
  have ne_r0_sp : r0 ≠ sp := Nat.ne_of_lt lo_r0_sp
  have lo_d_sp := Nat.lt_trans lo_d_fi lo_fi_sp
  have ne_d_sp : d ≠ sp := Nat.ne_of_lt lo_d_sp
  have lo_t_sp := Nat.lt_trans lo_t_fi lo_fi_sp
  have ne_t_sp : t ≠ sp := Nat.ne_of_lt lo_t_sp
  have lo_bc_sp := Nat.lt_trans lo_bc_fi lo_fi_sp
  have ne_bc_sp : bc ≠ sp := Nat.ne_of_lt lo_bc_sp
  have ne_fi_sp : fi ≠ sp := Nat.ne_of_lt lo_fi_sp
  have lo_r0_nx := Nat.lt_trans lo_r0_sp lo_sp_nx
  have ne_r0_nx : r0 ≠ nx := Nat.ne_of_lt lo_r0_nx
  have lo_d_nx := Nat.lt_trans lo_d_sp lo_sp_nx
  have ne_d_nx : d ≠ nx := Nat.ne_of_lt lo_d_nx
  have lo_t_nx := Nat.lt_trans lo_t_sp lo_sp_nx
  have ne_t_nx : t ≠ nx := Nat.ne_of_lt lo_t_nx
  have lo_bc_nx := Nat.lt_trans lo_bc_sp lo_sp_nx
  have ne_bc_nx : bc ≠ nx := Nat.ne_of_lt lo_bc_nx
  have lo_fi_nx := Nat.lt_trans lo_fi_sp lo_sp_nx
  have ne_fi_nx : fi ≠ nx := Nat.ne_of_lt lo_fi_nx
  have ne_sp_nx : sp ≠ nx := Nat.ne_of_lt lo_sp_nx
  have lo_r0_la := Nat.lt_trans lo_r0_nx lo_nx_la
  have ne_r0_la : r0 ≠ la := Nat.ne_of_lt lo_r0_la
  have lo_d_la := Nat.lt_trans lo_d_nx lo_nx_la
  have ne_d_la : d ≠ la := Nat.ne_of_lt lo_d_la
  have lo_t_la := Nat.lt_trans lo_t_nx lo_nx_la
  have ne_t_la : t ≠ la := Nat.ne_of_lt lo_t_la
  have lo_bc_la := Nat.lt_trans lo_bc_nx lo_nx_la
  have ne_bc_la : bc ≠ la := Nat.ne_of_lt lo_bc_la
  have lo_fi_la := Nat.lt_trans lo_fi_nx lo_nx_la
  have ne_fi_la : fi ≠ la := Nat.ne_of_lt lo_fi_la
  have lo_sp_la := Nat.lt_trans lo_sp_nx lo_nx_la
  have ne_sp_la : sp ≠ la := Nat.ne_of_lt lo_sp_la
  have ne_nx_la : nx ≠ la := Nat.ne_of_lt lo_nx_la
  have g_d : n0 ≤ d := Nat.le_trans g_r0 (Nat.le_of_lt lo_r0_d)
  have g_t : n0 ≤ t := Nat.le_trans g_r0 (Nat.le_of_lt lo_r0_t)
  have g_bc : n0 ≤ bc := Nat.le_trans g_r0 (Nat.le_of_lt lo_r0_bc)
  have g_fi : n0 ≤ fi := Nat.le_trans g_r0 (Nat.le_of_lt lo_r0_fi)
  have g_sp : n0 ≤ sp := Nat.le_trans g_r0 (Nat.le_of_lt lo_r0_sp)
  have g_nx : n0 ≤ nx := Nat.le_trans g_r0 (Nat.le_of_lt lo_r0_nx)
  have g_la : n0 ≤ la := Nat.le_trans g_r0 (Nat.le_of_lt lo_r0_la)
  have K := Keep.refl h0 [r0, d, t, bc, fi, sp, nx, la]
  show GolF _ _ _ _ _ _ _ s₁ m 0 #[.val (.ref r0), .val (.int (0 : Int32)), .unset] []
  refine Gol.iconst X0 hx hby d8_0 (pc' := 1) rfl (z := (-1 : Int32)) rfl ?_
  refine Gol.istoreN X0 hx hby d8_1 (pc' := 2) rfl (l' := #[.val (.ref r0), .val (.int (0 : Int32)), .val (.int (-1 : Int32))]) rfl ?_
  refine Gol.aloadN X0 hx hby d8_2 (pc' := 3) rfl rfl rfl ?_
  refine Gol.getF X0 hx hby hZ hown (host := "") (Or.inl (hw _ (List.mem_of_getElem? (i := 21) rfl))) Via.refl eh0 F_r0_next d8_3 (pc' := 6) rfl ?_
  intro T1 X1 e1
  refine Gol.iloadN X1 hx hby d8_6 (pc' := 7) rfl rfl ?_
  refine Gol.iaload X1 hx hby hZ e1 V_nx d8_7 (pc' := 8) rfl ⟨by decide, by decide⟩ (v := n) rfl ?_
  refine Gol.aloadN X1 hx hby d8_8 (pc' := 9) rfl rfl rfl ?_
  refine Gol.getF X1 hx hby hZ hown (host := "") (Or.inl (hw _ (List.mem_of_getElem? (i := 23) rfl))) Via.refl e1 F_r0_last d8_9 (pc' := 12) rfl ?_
  intro T2 X2 e2
  refine Gol.iloadN X2 hx hby d8_12 (pc' := 13) rfl rfl ?_
  refine Gol.iaload X2 hx hby hZ e2 V_la d8_13 (pc' := 14) rfl ⟨by decide, by decide⟩ (v := lz) rfl ?_
  by_cases hc14_3 : lz < n
  · skip
    refine Gol.icmpYes X2 hx hby d8_14 (pc' := 48) (by decide) (tlt hc14_3).2.2.1 ?_
    refine Gol.iloadN X2 hx hby d8_48 (pc' := 49) rfl rfl ?_
    have hv : own_cnt f b n lz = (-1 : Int32) := if_pos hc14_3
    have hu : own_nx n lz = n := if_pos hc14_3
    exact Gol.retI X2 hx hby Bd.returns Bd.notSynchronized d8_49 e2 (by unfold Q8_0; rw [hv, hu]; exact ⟨rfl, N0, K.1, ⟨d, t, bc, fi, sp, nx, la, kd, kt, kbc, kfi, ksp, knx, kla, v7, v8, ⟨E_r0, F_r0_decided, F_r0_taken, F_r0_branchClass, F_r0_first, F_r0_step, F_r0_next, F_r0_last, F_r0_classServers, F_r0_allClasses, F_r0_depth⟩, V_d, V_t, V_bc, V_fi, V_sp, V_nx, V_la, lo_r0_d, lo_d_t, lo_t_bc, lo_bc_fi, lo_fi_sp, lo_sp_nx, lo_nx_la⟩⟩) (by decide) (by decide)
  · skip
    refine Gol.icmpNo X2 hx hby d8_14 (pc' := 17) rfl (flt hc14_3).2.2.1 ?_
    refine Gol.aloadN X2 hx hby d8_17 (pc' := 18) rfl rfl rfl ?_
    refine Gol.getF X2 hx hby hZ hown (host := "") (Or.inl (hw _ (List.mem_of_getElem? (i := 17) rfl))) Via.refl e2 F_r0_first d8_18 (pc' := 21) rfl ?_
    intro T4 X4 e4
    refine Gol.iloadN X4 hx hby d8_21 (pc' := 22) rfl rfl ?_
    refine Gol.iaload X4 hx hby hZ e4 V_fi d8_22 (pc' := 23) rfl ⟨by decide, by decide⟩ (v := f) rfl ?_
    refine Gol.aloadN X4 hx hby d8_23 (pc' := 24) rfl rfl rfl ?_
    refine Gol.getF X4 hx hby hZ hown (host := "") (Or.inl (hw _ (List.mem_of_getElem? (i := 21) rfl))) Via.refl e4 F_r0_next d8_24 (pc' := 27) rfl ?_
    intro T5 X5 e5
    refine Gol.iloadN X5 hx hby d8_27 (pc' := 28) rfl rfl ?_
    refine Gol.iaload X5 hx hby hZ e5 V_nx d8_28 (pc' := 29) rfl ⟨by decide, by decide⟩ (v := n) rfl ?_
    refine Gol.aloadN X5 hx hby d8_29 (pc' := 30) rfl rfl rfl ?_
    refine Gol.getF X5 hx hby hZ hown (host := "") (Or.inl (hw _ (List.mem_of_getElem? (i := 19) rfl))) Via.refl e5 F_r0_step d8_30 (pc' := 33) rfl ?_
    intro T6 X6 e6
    refine Gol.iloadN X6 hx hby d8_33 (pc' := 34) rfl rfl ?_
    refine Gol.iaload X6 hx hby hZ e6 V_sp d8_34 (pc' := 35) rfl ⟨by decide, by decide⟩ (v := b) rfl ?_
    refine Gol.imul X6 hx hby d8_35 (pc' := 36) rfl rfl ?_
    refine Gol.iadd X6 hx hby d8_36 (pc' := 37) rfl rfl ?_
    refine Gol.istoreN X6 hx hby d8_37 (pc' := 38) rfl (l' := #[.val (.ref r0), .val (.int (0 : Int32)), .val (.int (f + (n * b)))]) rfl ?_
    refine Gol.aloadN X6 hx hby d8_38 (pc' := 39) rfl rfl rfl ?_
    refine Gol.getF X6 hx hby hZ hown (host := "") (Or.inl (hw _ (List.mem_of_getElem? (i := 21) rfl))) Via.refl e6 F_r0_next d8_39 (pc' := 42) rfl ?_
    intro T7 X7 e7
    refine Gol.iloadN X7 hx hby d8_42 (pc' := 43) rfl rfl ?_
    refine Gol.dup2 X7 hx hby d8_43 (pc' := 44) rfl rfl rfl ?_
    refine Gol.iaload X7 hx hby hZ e7 V_nx d8_44 (pc' := 45) rfl ⟨by decide, by decide⟩ (v := n) rfl ?_
    refine Gol.iconst X7 hx hby d8_45 (pc' := 46) rfl (z := (1 : Int32)) rfl ?_
    refine Gol.iadd X7 hx hby d8_46 (pc' := 47) rfl rfl ?_
    refine Gol.iastore X7 hx hby hZ e7 V_nx d8_47 (pc' := 48) rfl ⟨by decide, by decide⟩ 0 rfl (Nat.le_of_ble_eq_true rfl) ?_
    intro T8 h8 X8 e8 W8 A8
    have V_nx : Arv Z h8 nx knx .int (64 : Int32) [(.int (n + (1 : Int32))), y3] (.int (0 : Int32)) := A8
    have E_r0 := E_r0.wr W8
    have F_r0_decided := F_r0_decided.other W8 (Or.inl ne_r0_nx)
    have F_r0_taken := F_r0_taken.other W8 (Or.inl ne_r0_nx)
    have F_r0_branchClass := F_r0_branchClass.other W8 (Or.inl ne_r0_nx)
    have F_r0_first := F_r0_first.other W8 (Or.inl ne_r0_nx)
    have F_r0_step := F_r0_step.other W8 (Or.inl ne_r0_nx)
    have F_r0_next := F_r0_next.other W8 (Or.inl ne_r0_nx)
    have F_r0_last := F_r0_last.other W8 (Or.inl ne_r0_nx)
    have F_r0_classServers := F_r0_classServers.other W8 (Or.inl ne_r0_nx)
    have F_r0_allClasses := F_r0_allClasses.other W8 (Or.inl ne_r0_nx)
    have F_r0_depth := F_r0_depth.other W8 (Or.inl ne_r0_nx)
    have V_d := V_d.other W8 ne_d_nx
    have V_t := V_t.other W8 ne_t_nx
    have V_bc := V_bc.other W8 ne_bc_nx
    have V_fi := V_fi.other W8 ne_fi_nx
    have V_sp := V_sp.other W8 ne_sp_nx
    have V_la := V_la.other W8 ne_nx_la.symm
    have K := K.wr W8 (Or.inl (List.mem_of_getElem? (i := 6) rfl))
    have Zs := Nat.le_trans Zs (Keep.of_wr W8).1
    have N8 := Fr.snoc X8 N0 g_nx
    refine Gol.iloadN X8 hx hby d8_48 (pc' := 49) rfl rfl ?_
    have hv : own_cnt f b n lz = (f + (n * b)) := if_neg hc14_3
    have hu : own_nx n lz = (n + (1 : Int32)) := if_neg hc14_3
    exact Gol.retI X8 hx hby Bd.returns Bd.notSynchronized d8_49 e8 (by unfold Q8_0; rw [hv, hu]; exact ⟨rfl, N8, K.1, ⟨d, t, bc, fi, sp, nx, la, kd, kt, kbc, kfi, ksp, knx, kla, v7, v8, ⟨E_r0, F_r0_decided, F_r0_taken, F_r0_branchClass, F_r0_first, F_r0_step, F_r0_next, F_r0_last, F_r0_classServers, F_r0_allClasses, F_r0_depth⟩, V_d, V_t, V_bc, V_fi, V_sp, V_nx, V_la, lo_r0_d, lo_d_t, lo_t_bc, lo_bc_fi, lo_fi_sp, lo_sp_nx, lo_nx_la⟩⟩) (by decide) (by decide)
abbrev Q8_1 (Z : State) (r0 : Addr) (p1 : Int32) (dep : Int32) (ud : List Value) (ut : List Value) (ub : List Value) (f : Int32) (b : Int32) (n : Int32) (lz : Int32) (y1 : Value) (y2 : Value) (y3 : Value) (y4 : Value) (h0 : Heap) (n0 : Nat) (v : Option Value) (h : Heap) (L : List Loc) : Prop := v = some (.int (own_cnt f b n lz)) ∧ Fr n0 L ∧ h0.size ≤ h.size ∧ FrS Z h r0 (64 : Int32) dep ud ut ub [y1, (.int f)] [y2, (.int b)] [y3, (.int (own_nx n lz))] [y4, (.int lz)]
set_option maxRecDepth 65536 in
set_option maxHeartbeats 40000000 in
theorem rm8_1 (l : Launch) (Z : State) (a0 : Array Value) (hw : ∀ d ∈ tables_1, d.before a0 Z = true) (ws : List Jvm.Cond) (r0 : Addr) (p1 : Int32) (dep : Int32) (ud : List Value) (ut : List Value) (ub : List Value) (f : Int32) (b : Int32) (n : Int32) (lz : Int32) (y1 : Value) (y2 : Value) (y3 : Value) (y4 : Value) (h0 : Heap) (n0 : Nat) (Z0 : n0 ≤ h0.size) (hp : p1 = (1 : Int32)) (O0 : FrS Z h0 r0 (64 : Int32) dep ud ut ub [y1, (.int f)] [y2, (.int b)] [y3, (.int n)] [y4, (.int lz)]) (g_r0 : n0 ≤ r0) :
    MetFree l (⟨"com/example/quorumstone/quorumstone/check/Frames", "nextCount", "(I)I"⟩ : MethodName) (head1 (Jvm.Cond.code (⟨"com/example/quorumstone/quorumstone/check/Frames", "nextCount", "(I)I"⟩ : MethodName) prog_5_method_4_code 3 (some .int) :: ws) ({ frames := 0, cells := 0, slots := 0, locals := 0 } : Room)) (fun a U => a = #[(.ref r0), (.int p1)] ∧ Z.Warmed39 U.vm ∧ U.heap = h0) (fun _ _ _ _ _ => True) (fun _ U o U' => ∃ v L, o = .returned v ∧ Q8_1 Z r0 p1 dep ud ut ub f b n lz y1 y2 y3 y4 h0 n0 v U'.heap L ∧ FrameEnd U o U' L 0 0) := by
  refine MetFree.of_bodySF (plainFor_of_name pn_8) hisR ?_
  intro p ev s m args below meth c s₁ Bd hml0 hP hK
  obtain ⟨rfl, hZ, hh⟩ := hP
  have hx := Bd.exec
  have hby := Bd.bytes
  have hml : c.maxLocals = 3 := hml0
  have hown : s.vm.findClass "com/example/quorumstone/quorumstone/check/Frames" = some m.cls := findClass_of_methodNamed Bd.named
  have hnm := (name_of_methodNamed Bd.named Bd.method).1
  have X0 : Stand p l ev ({ frames := 0, cells := 0, slots := 0, locals := 0 } : Room) s m #[(.ref r0), (.int p1)] below meth c s₁ [] 0 0 := Stand.of_body Bd
  have eh0 : s₁.heap = h0 := by rw [← hh, Bd.state]; rfl
  have N0 := Fr.nil n0
  have Zs := Z0
  show Gol p ev below (FrameEnd s) (Q8_1 Z r0 p1 dep ud ut ub f b n lz y1 y2 y3 y4 h0 n0) 0 0 (s₁.setTop (entryFrame m #[(.ref r0), (.int p1)] 3))
  rw [ef_8]
  subst hp
  obtain ⟨d, t, bc, fi, sp, nx, la, kd, kt, kbc, kfi, ksp, knx, kla, v7, v8, O1, V_d, V_t, V_bc, V_fi, V_sp, V_nx, V_la, lo_r0_d, lo_d_t, lo_t_bc, lo_bc_fi, lo_fi_sp, lo_sp_nx, lo_nx_la⟩ := O0
  obtain ⟨E_r0, F_r0_decided, F_r0_taken, F_r0_branchClass, F_r0_first, F_r0_step, F_r0_next, F_r0_last, F_r0_classServers, F_r0_allClasses, F_r0_depth⟩ := O1
  have ne_r0_d : r0 ≠ d := Nat.ne_of_lt lo_r0_d
  have lo_r0_t := Nat.lt_trans lo_r0_d lo_d_t
  have ne_r0_t : r0 ≠ t := Nat.ne_of_lt lo_r0_t
  have ne_d_t : d ≠ t := Nat.ne_of_lt lo_d_t
  have lo_r0_bc := Nat.lt_trans lo_r0_t lo_t_bc
  have ne_r0_bc : r0 ≠ bc := Nat.ne_of_lt lo_r0_bc
  have lo_d_bc := Nat.lt_trans lo_d_t lo_t_bc
  have ne_d_bc : d ≠ bc := Nat.ne_of_lt lo_d_bc
  have ne_t_bc : t ≠ bc := Nat.ne_of_lt lo_t_bc
  have lo_r0_fi := Nat.lt_trans lo_r0_bc lo_bc_fi
  have ne_r0_fi : r0 ≠ fi := Nat.ne_of_lt lo_r0_fi
  have lo_d_fi := Nat.lt_trans lo_d_bc lo_bc_fi
  have ne_d_fi : d ≠ fi := Nat.ne_of_lt lo_d_fi
  have lo_t_fi := Nat.lt_trans lo_t_bc lo_bc_fi
  have ne_t_fi : t ≠ fi := Nat.ne_of_lt lo_t_fi
  have ne_bc_fi : bc ≠ fi := Nat.ne_of_lt lo_bc_fi
  have lo_r0_sp := Nat.lt_trans lo_r0_fi lo_fi_sp
  have ne_r0_sp : r0 ≠ sp := Nat.ne_of_lt lo_r0_sp
  have lo_d_sp := Nat.lt_trans lo_d_fi lo_fi_sp
  have ne_d_sp : d ≠ sp := Nat.ne_of_lt lo_d_sp
  have lo_t_sp := Nat.lt_trans lo_t_fi lo_fi_sp
  have ne_t_sp : t ≠ sp := Nat.ne_of_lt lo_t_sp
  have lo_bc_sp := Nat.lt_trans lo_bc_fi lo_fi_sp
  have ne_bc_sp : bc ≠ sp := Nat.ne_of_lt lo_bc_sp
  have ne_fi_sp : fi ≠ sp := Nat.ne_of_lt lo_fi_sp
  have lo_r0_nx := Nat.lt_trans lo_r0_sp lo_sp_nx
  have ne_r0_nx : r0 ≠ nx := Nat.ne_of_lt lo_r0_nx
  have lo_d_nx := Nat.lt_trans lo_d_sp lo_sp_nx
  have ne_d_nx : d ≠ nx := Nat.ne_of_lt lo_d_nx
  have lo_t_nx := Nat.lt_trans lo_t_sp lo_sp_nx
  have ne_t_nx : t ≠ nx := Nat.ne_of_lt lo_t_nx
  have lo_bc_nx := Nat.lt_trans lo_bc_sp lo_sp_nx
  have ne_bc_nx : bc ≠ nx := Nat.ne_of_lt lo_bc_nx
  have lo_fi_nx := Nat.lt_trans lo_fi_sp lo_sp_nx
  have ne_fi_nx : fi ≠ nx := Nat.ne_of_lt lo_fi_nx
  have ne_sp_nx : sp ≠ nx := Nat.ne_of_lt lo_sp_nx
  have lo_r0_la := Nat.lt_trans lo_r0_nx lo_nx_la
  have ne_r0_la : r0 ≠ la := Nat.ne_of_lt lo_r0_la
  have lo_d_la := Nat.lt_trans lo_d_nx lo_nx_la
  have ne_d_la : d ≠ la := Nat.ne_of_lt lo_d_la
  have lo_t_la := Nat.lt_trans lo_t_nx lo_nx_la
  have ne_t_la : t ≠ la := Nat.ne_of_lt lo_t_la
  have lo_bc_la := Nat.lt_trans lo_bc_nx lo_nx_la
  have ne_bc_la : bc ≠ la := Nat.ne_of_lt lo_bc_la
  have lo_fi_la := Nat.lt_trans lo_fi_nx lo_nx_la
  have ne_fi_la : fi ≠ la := Nat.ne_of_lt lo_fi_la
  have lo_sp_la := Nat.lt_trans lo_sp_nx lo_nx_la
  have ne_sp_la : sp ≠ la := Nat.ne_of_lt lo_sp_la
  have ne_nx_la : nx ≠ la := Nat.ne_of_lt lo_nx_la
  have g_d : n0 ≤ d := Nat.le_trans g_r0 (Nat.le_of_lt lo_r0_d)
  have g_t : n0 ≤ t := Nat.le_trans g_r0 (Nat.le_of_lt lo_r0_t)
  have g_bc : n0 ≤ bc := Nat.le_trans g_r0 (Nat.le_of_lt lo_r0_bc)
  have g_fi : n0 ≤ fi := Nat.le_trans g_r0 (Nat.le_of_lt lo_r0_fi)
  have g_sp : n0 ≤ sp := Nat.le_trans g_r0 (Nat.le_of_lt lo_r0_sp)
  have g_nx : n0 ≤ nx := Nat.le_trans g_r0 (Nat.le_of_lt lo_r0_nx)
  have g_la : n0 ≤ la := Nat.le_trans g_r0 (Nat.le_of_lt lo_r0_la)
  have K := Keep.refl h0 [r0, d, t, bc, fi, sp, nx, la]
  show GolF _ _ _ _ _ _ _ s₁ m 0 #[.val (.ref r0), .val (.int (1 : Int32)), .unset] []
  refine Gol.iconst X0 hx hby d8_0 (pc' := 1) rfl (z := (-1 : Int32)) rfl ?_
  refine Gol.istoreN X0 hx hby d8_1 (pc' := 2) rfl (l' := #[.val (.ref r0), .val (.int (1 : Int32)), .val (.int (-1 : Int32))]) rfl ?_
  refine Gol.aloadN X0 hx hby d8_2 (pc' := 3) rfl rfl rfl ?_
  refine Gol.getF X0 hx hby hZ hown (host := "") (Or.inl (hw _ (List.mem_of_getElem? (i := 21) rfl))) Via.refl eh0 F_r0_next d8_3 (pc' := 6) rfl ?_
  intro T1 X1 e1
  refine Gol.iloadN X1 hx hby d8_6 (pc' := 7) rfl rfl ?_
  refine Gol.iaload X1 hx hby hZ e1 V_nx d8_7 (pc' := 8) rfl ⟨by decide, by decide⟩ (v := n) rfl ?_
  refine Gol.aloadN X1 hx hby d8_8 (pc' := 9) rfl rfl rfl ?_
  refine Gol.getF X1 hx hby hZ hown (host := "") (Or.inl (hw _ (List.mem_of_getElem? (i := 23) rfl))) Via.refl e1 F_r0_last d8_9 (pc' := 12) rfl ?_
  intro T2 X2 e2
  refine Gol.iloadN X2 hx hby d8_12 (pc' := 13) rfl rfl ?_
  refine Gol.iaload X2 hx hby hZ e2 V_la d8_13 (pc' := 14) rfl ⟨by decide, by decide⟩ (v := lz) rfl ?_
  by_cases hc14_3 : lz < n
  · skip
    refine Gol.icmpYes X2 hx hby d8_14 (pc' := 48) (by decide) (tlt hc14_3).2.2.1 ?_
    refine Gol.iloadN X2 hx hby d8_48 (pc' := 49) rfl rfl ?_
    have hv : own_cnt f b n lz = (-1 : Int32) := if_pos hc14_3
    have hu : own_nx n lz = n := if_pos hc14_3
    exact Gol.retI X2 hx hby Bd.returns Bd.notSynchronized d8_49 e2 (by unfold Q8_1; rw [hv, hu]; exact ⟨rfl, N0, K.1, ⟨d, t, bc, fi, sp, nx, la, kd, kt, kbc, kfi, ksp, knx, kla, v7, v8, ⟨E_r0, F_r0_decided, F_r0_taken, F_r0_branchClass, F_r0_first, F_r0_step, F_r0_next, F_r0_last, F_r0_classServers, F_r0_allClasses, F_r0_depth⟩, V_d, V_t, V_bc, V_fi, V_sp, V_nx, V_la, lo_r0_d, lo_d_t, lo_t_bc, lo_bc_fi, lo_fi_sp, lo_sp_nx, lo_nx_la⟩⟩) (by decide) (by decide)
  · skip
    refine Gol.icmpNo X2 hx hby d8_14 (pc' := 17) rfl (flt hc14_3).2.2.1 ?_
    refine Gol.aloadN X2 hx hby d8_17 (pc' := 18) rfl rfl rfl ?_
    refine Gol.getF X2 hx hby hZ hown (host := "") (Or.inl (hw _ (List.mem_of_getElem? (i := 17) rfl))) Via.refl e2 F_r0_first d8_18 (pc' := 21) rfl ?_
    intro T4 X4 e4
    refine Gol.iloadN X4 hx hby d8_21 (pc' := 22) rfl rfl ?_
    refine Gol.iaload X4 hx hby hZ e4 V_fi d8_22 (pc' := 23) rfl ⟨by decide, by decide⟩ (v := f) rfl ?_
    refine Gol.aloadN X4 hx hby d8_23 (pc' := 24) rfl rfl rfl ?_
    refine Gol.getF X4 hx hby hZ hown (host := "") (Or.inl (hw _ (List.mem_of_getElem? (i := 21) rfl))) Via.refl e4 F_r0_next d8_24 (pc' := 27) rfl ?_
    intro T5 X5 e5
    refine Gol.iloadN X5 hx hby d8_27 (pc' := 28) rfl rfl ?_
    refine Gol.iaload X5 hx hby hZ e5 V_nx d8_28 (pc' := 29) rfl ⟨by decide, by decide⟩ (v := n) rfl ?_
    refine Gol.aloadN X5 hx hby d8_29 (pc' := 30) rfl rfl rfl ?_
    refine Gol.getF X5 hx hby hZ hown (host := "") (Or.inl (hw _ (List.mem_of_getElem? (i := 19) rfl))) Via.refl e5 F_r0_step d8_30 (pc' := 33) rfl ?_
    intro T6 X6 e6
    refine Gol.iloadN X6 hx hby d8_33 (pc' := 34) rfl rfl ?_
    refine Gol.iaload X6 hx hby hZ e6 V_sp d8_34 (pc' := 35) rfl ⟨by decide, by decide⟩ (v := b) rfl ?_
    refine Gol.imul X6 hx hby d8_35 (pc' := 36) rfl rfl ?_
    refine Gol.iadd X6 hx hby d8_36 (pc' := 37) rfl rfl ?_
    refine Gol.istoreN X6 hx hby d8_37 (pc' := 38) rfl (l' := #[.val (.ref r0), .val (.int (1 : Int32)), .val (.int (f + (n * b)))]) rfl ?_
    refine Gol.aloadN X6 hx hby d8_38 (pc' := 39) rfl rfl rfl ?_
    refine Gol.getF X6 hx hby hZ hown (host := "") (Or.inl (hw _ (List.mem_of_getElem? (i := 21) rfl))) Via.refl e6 F_r0_next d8_39 (pc' := 42) rfl ?_
    intro T7 X7 e7
    refine Gol.iloadN X7 hx hby d8_42 (pc' := 43) rfl rfl ?_
    refine Gol.dup2 X7 hx hby d8_43 (pc' := 44) rfl rfl rfl ?_
    refine Gol.iaload X7 hx hby hZ e7 V_nx d8_44 (pc' := 45) rfl ⟨by decide, by decide⟩ (v := n) rfl ?_
    refine Gol.iconst X7 hx hby d8_45 (pc' := 46) rfl (z := (1 : Int32)) rfl ?_
    refine Gol.iadd X7 hx hby d8_46 (pc' := 47) rfl rfl ?_
    refine Gol.iastore X7 hx hby hZ e7 V_nx d8_47 (pc' := 48) rfl ⟨by decide, by decide⟩ 1 rfl (Nat.le_of_ble_eq_true rfl) ?_
    intro T8 h8 X8 e8 W8 A8
    have V_nx : Arv Z h8 nx knx .int (64 : Int32) [y3, (.int (n + (1 : Int32)))] (.int (0 : Int32)) := A8
    have E_r0 := E_r0.wr W8
    have F_r0_decided := F_r0_decided.other W8 (Or.inl ne_r0_nx)
    have F_r0_taken := F_r0_taken.other W8 (Or.inl ne_r0_nx)
    have F_r0_branchClass := F_r0_branchClass.other W8 (Or.inl ne_r0_nx)
    have F_r0_first := F_r0_first.other W8 (Or.inl ne_r0_nx)
    have F_r0_step := F_r0_step.other W8 (Or.inl ne_r0_nx)
    have F_r0_next := F_r0_next.other W8 (Or.inl ne_r0_nx)
    have F_r0_last := F_r0_last.other W8 (Or.inl ne_r0_nx)
    have F_r0_classServers := F_r0_classServers.other W8 (Or.inl ne_r0_nx)
    have F_r0_allClasses := F_r0_allClasses.other W8 (Or.inl ne_r0_nx)
    have F_r0_depth := F_r0_depth.other W8 (Or.inl ne_r0_nx)
    have V_d := V_d.other W8 ne_d_nx
    have V_t := V_t.other W8 ne_t_nx
    have V_bc := V_bc.other W8 ne_bc_nx
    have V_fi := V_fi.other W8 ne_fi_nx
    have V_sp := V_sp.other W8 ne_sp_nx
    have V_la := V_la.other W8 ne_nx_la.symm
    have K := K.wr W8 (Or.inl (List.mem_of_getElem? (i := 6) rfl))
    have Zs := Nat.le_trans Zs (Keep.of_wr W8).1
    have N8 := Fr.snoc X8 N0 g_nx
    refine Gol.iloadN X8 hx hby d8_48 (pc' := 49) rfl rfl ?_
    have hv : own_cnt f b n lz = (f + (n * b)) := if_neg hc14_3
    have hu : own_nx n lz = (n + (1 : Int32)) := if_neg hc14_3
    exact Gol.retI X8 hx hby Bd.returns Bd.notSynchronized d8_49 e8 (by unfold Q8_1; rw [hv, hu]; exact ⟨rfl, N8, K.1, ⟨d, t, bc, fi, sp, nx, la, kd, kt, kbc, kfi, ksp, knx, kla, v7, v8, ⟨E_r0, F_r0_decided, F_r0_taken, F_r0_branchClass, F_r0_first, F_r0_step, F_r0_next, F_r0_last, F_r0_classServers, F_r0_allClasses, F_r0_depth⟩, V_d, V_t, V_bc, V_fi, V_sp, V_nx, V_la, lo_r0_d, lo_d_t, lo_t_bc, lo_bc_fi, lo_fi_sp, lo_sp_nx, lo_nx_la⟩⟩) (by decide) (by decide)
theorem own_a (f b c : Int32) (h : c = -2 ∨ c = -1 ∨ c = 0 ∨ c = 1 ∨ c = 2 ∨ c = 3 ∨ c = 4 ∨ c = 5) :
    own_cnt f b 0 (c - 1) = f9 f b c 0 ∧ own_cnt f b (own_nx 0 (c - 1)) (c - 1) = f9 f b c 1 ∧ own_cnt f b (own_nx (own_nx 0 (c - 1)) (c - 1)) (c - 1) = f9 f b c 2 ∧ own_cnt f b (own_nx (own_nx (own_nx 0 (c - 1)) (c - 1)) (c - 1)) (c - 1) = f9 f b c 3 := by
  rcases h with rfl | rfl | rfl | rfl | rfl | rfl | rfl | rfl <;> exact ⟨rfl, rfl, rfl, rfl⟩
theorem own_m7 (x : Int32) : ∃ n : Nat, n ≤ 7 ∧ (x &&& (7 : Int32)) = Int32.ofNat n := by
  refine ⟨(x &&& 7).toBitVec.toNat, ?_, ?_⟩
  · simp only [Int32.toBitVec_and, BitVec.toNat_and]
    exact Nat.and_le_right
  · apply Int32.toBitVec_inj.mp
    show _ = BitVec.ofNat 32 _
    rw [BitVec.ofNat_toNat]; simp
theorem own_m3 (x : Int32) : ∃ n : Nat, n ≤ 3 ∧ (x &&& (3 : Int32)) = Int32.ofNat n := by
  refine ⟨(x &&& 3).toBitVec.toNat, ?_, ?_⟩
  · simp only [Int32.toBitVec_and, BitVec.toNat_and]
    exact Nat.and_le_right
  · apply Int32.toBitVec_inj.mp
    show _ = BitVec.ofNat 32 _
    rw [BitVec.ofNat_toNat]; simp
theorem own_c0 {x c : Int32} (h : c = ((x &&& (7 : Int32)) - (2 : Int32))) : c = -2 ∨ c = -1 ∨ c = 0 ∨ c = 1 ∨ c = 2 ∨ c = 3 ∨ c = 4 ∨ c = 5 := by
  obtain ⟨n, hn, e⟩ := own_m7 x
  rw [e] at h
  have q : n = 0 ∨ n = 1 ∨ n = 2 ∨ n = 3 ∨ n = 4 ∨ n = 5 ∨ n = 6 ∨ n = 7 := by omega
  rcases q with rfl | rfl | rfl | rfl | rfl | rfl | rfl | rfl <;> subst h <;> decide
theorem own_c1 {x c : Int32} (h : c = ((x &&& (3 : Int32)) - (1 : Int32))) : c = -2 ∨ c = -1 ∨ c = 0 ∨ c = 1 ∨ c = 2 ∨ c = 3 ∨ c = 4 ∨ c = 5 := by
  obtain ⟨n, hn, e⟩ := own_m3 x
  rw [e] at h
  have q : n = 0 ∨ n = 1 ∨ n = 2 ∨ n = 3 := by omega
  rcases q with rfl | rfl | rfl | rfl <;> subst h <;> decide
theorem pn_0 : plainName "com/example/quorumstone/quorumstone/check/FramesNextCountPinLaw" = true := by first | (simp [plainName, overriddenIn]; done) | decide +kernel
theorem ef_0 (m : MethodId) (p0 : Int32) (p1 : Int32) (p2 : Int32) (p3 : Int32) (p4 : Int32) : entryFrame m #[(.int p0), (.int p1), (.int p2), (.int p3), (.int p4)] maxLocals = mkF m 0 #[.val (.int p0), .val (.int p1), .val (.int p2), .val (.int p3), .val (.int p4), .unset, .unset, .unset, .unset, .unset, .unset, .unset, .unset, .unset, .unset, .unset, .unset] [] := by first | (simp [entryFrame, mkF, argsToLocals, Value.category, maxLocals]; done) | rfl
abbrev Q0 (Z : State) (p0 : Int32) (p1 : Int32) (p2 : Int32) (p3 : Int32) (p4 : Int32) (h0 : Heap) (n0 : Nat) (v : Option Value) (h : Heap) (L : List Loc) : Prop := v = some (.int 1) ∧ Fr n0 L
set_option maxRecDepth 65536 in
set_option maxHeartbeats 40000000 in
theorem rm0 (l : Launch) (Z : State) (a0 : Array Value) (hw : ∀ d ∈ tables_1, d.before a0 Z = true) (ws : List Jvm.Cond) (p0 : Int32) (p1 : Int32) (p2 : Int32) (p3 : Int32) (p4 : Int32) (h0 : Heap) (n0 : Nat) (Z0 : n0 ≤ h0.size) :
    MetFree l x (head1 (Jvm.Cond.code x code maxLocals ret :: ws) room_1) (fun a U => a = #[(.int p0), (.int p1), (.int p2), (.int p3), (.int p4)] ∧ Z.Warmed39 U.vm ∧ U.heap = h0) (fun _ _ _ _ _ => True) (fun _ U o U' => ∃ v L, o = .returned v ∧ Q0 Z p0 p1 p2 p3 p4 h0 n0 v U'.heap L ∧ FrameEnd U o U' L 16 458) := by
  refine MetFree.of_bodySF (plainFor_of_name pn_0) hisR ?_
  intro p ev s m args below meth c s₁ Bd hml0 hP hK
  obtain ⟨rfl, hZ, hh⟩ := hP
  have hx := Bd.exec
  have hby := Bd.bytes
  have hml : c.maxLocals = 17 := hml0
  have hown : s.vm.findClass "com/example/quorumstone/quorumstone/check/FramesNextCountPinLaw" = some m.cls := findClass_of_methodNamed Bd.named
  have hnm := (name_of_methodNamed Bd.named Bd.method).1
  have X0 : Stand p l ev room_1 s m #[(.int p0), (.int p1), (.int p2), (.int p3), (.int p4)] below meth c s₁ [] 0 0 := Stand.of_body Bd
  have eh0 : s₁.heap = h0 := by rw [← hh, Bd.state]; rfl
  have N0 := Fr.nil n0
  have Zs := Z0
  show Gol p ev below (FrameEnd s) (Q0 Z p0 p1 p2 p3 p4 h0 n0) 16 458 (s₁.setTop (entryFrame m #[(.int p0), (.int p1), (.int p2), (.int p3), (.int p4)] maxLocals))
  rw [ef_0]
  show GolF _ _ _ _ _ _ _ s₁ m 0 #[.val (.int p0), .val (.int p1), .val (.int p2), .val (.int p3), .val (.int p4), .unset, .unset, .unset, .unset, .unset, .unset, .unset, .unset, .unset, .unset, .unset, .unset] []
  refine Gol.iload X0 hx hby at_0 (pc' := 2) rfl rfl ?_
  refine Gol.bipush X0 hx hby at_2 (pc' := 4) rfl (z := (7 : Int32)) rfl ?_
  refine Gol.iand X0 hx hby at_4 (pc' := 5) rfl rfl ?_
  refine Gol.iconst X0 hx hby at_5 (pc' := 6) rfl (z := (2 : Int32)) rfl ?_
  refine Gol.isub X0 hx hby at_6 (pc' := 7) rfl rfl ?_
  obtain ⟨c0, hc0⟩ : ∃ z, z = ((p4 &&& (7 : Int32)) - (2 : Int32)) := ⟨_, rfl⟩
  rw [← hc0]
  show GolF _ _ _ _ _ _ _ s₁ m 7 #[.val (.int p0), .val (.int p1), .val (.int p2), .val (.int p3), .val (.int p4), .unset, .unset, .unset, .unset, .unset, .unset, .unset, .unset, .unset, .unset, .unset, .unset] [(.int c0)]
  refine Gol.istore X0 hx hby at_7 (pc' := 9) rfl (l' := #[.val (.int p0), .val (.int p1), .val (.int p2), .val (.int p3), .val (.int p4), .val (.int c0), .unset, .unset, .unset, .unset, .unset, .unset, .unset, .unset, .unset, .unset, .unset]) rfl ?_
  refine Gol.iload X0 hx hby at_9 (pc' := 11) rfl rfl ?_
  refine Gol.iconst X0 hx hby at_11 (pc' := 12) rfl (z := (3 : Int32)) rfl ?_
  refine Gol.iushr X0 hx hby at_12 (pc' := 13) rfl rfl ?_
  refine Gol.iconst X0 hx hby at_13 (pc' := 14) rfl (z := (3 : Int32)) rfl ?_
  refine Gol.iand X0 hx hby at_14 (pc' := 15) rfl rfl ?_
  refine Gol.iconst X0 hx hby at_15 (pc' := 16) rfl (z := (1 : Int32)) rfl ?_
  refine Gol.isub X0 hx hby at_16 (pc' := 17) rfl rfl ?_
  obtain ⟨c1, hc1⟩ : ∃ z, z = (((XT.ushr p4 (3 : Int32)) &&& (3 : Int32)) - (1 : Int32)) := ⟨_, rfl⟩
  rw [← hc1]
  show GolF _ _ _ _ _ _ _ s₁ m 17 #[.val (.int p0), .val (.int p1), .val (.int p2), .val (.int p3), .val (.int p4), .val (.int c0), .unset, .unset, .unset, .unset, .unset, .unset, .unset, .unset, .unset, .unset, .unset] [(.int c1)]
  refine Gol.istore X0 hx hby at_17 (pc' := 19) rfl (l' := #[.val (.int p0), .val (.int p1), .val (.int p2), .val (.int p3), .val (.int p4), .val (.int c0), .val (.int c1), .unset, .unset, .unset, .unset, .unset, .unset, .unset, .unset, .unset, .unset]) rfl ?_
  refine Gol.newO X0 hx hby hZ hown (hw _ (List.mem_of_getElem? (i := 0) rfl)) (hw _ (List.mem_of_getElem? (i := 1) rfl)) (hw _ (List.mem_of_getElem? (i := 2) rfl)) eh0 at_19 (pc' := 22) rfl (by decide) (by decide) ?_
  intro T1 h1 b1 g1 X1 e1 E1 A1 D1
  have g_b1 : n0 ≤ b1 := Nat.le_trans Zs (Nat.le_of_eq g1.symm)
  have Zs := Nat.le_trans Zs E1.1
  have E_b1 := A1
  have F_b1_decided : Fld Z h1 b1 "com/example/quorumstone/quorumstone/check/Frames" "decided" "[J" .null := D1 (Or.inl (hw _ (List.mem_of_getElem? (i := 11) rfl))) (ty := (.array .long)) (by decide)
  have F_b1_taken : Fld Z h1 b1 "com/example/quorumstone/quorumstone/check/Frames" "taken" "[J" .null := D1 (Or.inl (hw _ (List.mem_of_getElem? (i := 13) rfl))) (ty := (.array .long)) (by decide)
  have F_b1_branchClass : Fld Z h1 b1 "com/example/quorumstone/quorumstone/check/Frames" "branchClass" "[I" .null := D1 (Or.inl (hw _ (List.mem_of_getElem? (i := 16) rfl))) (ty := (.array .int)) (by decide)
  have F_b1_first : Fld Z h1 b1 "com/example/quorumstone/quorumstone/check/Frames" "first" "[I" .null := D1 (Or.inl (hw _ (List.mem_of_getElem? (i := 18) rfl))) (ty := (.array .int)) (by decide)
  have F_b1_step : Fld Z h1 b1 "com/example/quorumstone/quorumstone/check/Frames" "step" "[I" .null := D1 (Or.inl (hw _ (List.mem_of_getElem? (i := 20) rfl))) (ty := (.array .int)) (by decide)
  have F_b1_next : Fld Z h1 b1 "com/example/quorumstone/quorumstone/check/Frames" "next" "[I" .null := D1 (Or.inl (hw _ (List.mem_of_getElem? (i := 22) rfl))) (ty := (.array .int)) (by decide)
  have F_b1_last : Fld Z h1 b1 "com/example/quorumstone/quorumstone/check/Frames" "last" "[I" .null := D1 (Or.inl (hw _ (List.mem_of_getElem? (i := 24) rfl))) (ty := (.array .int)) (by decide)
  have F_b1_classServers : Fld Z h1 b1 "com/example/quorumstone/quorumstone/check/Frames" "classServers" "[J" .null := D1 (Or.inr (hw _ (List.mem_of_getElem? (i := 26) rfl))) (ty := (.array .long)) (by decide)
  have F_b1_allClasses : Fld Z h1 b1 "com/example/quorumstone/quorumstone/check/Frames" "allClasses" "J" (.long (0 : Int64)) := D1 (Or.inr (hw _ (List.mem_of_getElem? (i := 28) rfl))) (ty := .long) (by decide)
  have F_b1_depth : Fld Z h1 b1 "com/example/quorumstone/quorumstone/check/Frames" "depth" "I" (.int (0 : Int32)) := D1 (Or.inl (hw _ (List.mem_of_getElem? (i := 35) rfl))) (ty := .int) (by decide)
  refine Gol.dup X1 hx hby at_22 (pc' := 23) rfl rfl ?_
  refine Gol.iconst X1 hx hby at_23 (pc' := 24) rfl (z := (0 : Int32)) rfl ?_
  have E_b1' := E_b1
  refine Gol.newarr X1 hx hby hZ (hw _ (List.mem_of_getElem? (i := 3) rfl)) e1 0 at_24 (pc' := 26) rfl (by decide) (by decide) (by decide) (by decide) (by decide) ?_
  intro T2 h2 k2 b2 g2 X2 e2 E2 A2
  have lo_b1_b2 : b1 < b2 := Nat.lt_of_lt_of_le E_b1.lt (Nat.le_of_eq g2.symm)
  have ne_b1_b2 : b1 ≠ b2 := Nat.ne_of_lt lo_b1_b2
  have g_b2 : n0 ≤ b2 := Nat.le_trans Zs (Nat.le_of_eq g2.symm)
  have E_b1 := E_b1.ext E2
  have F_b1_decided := F_b1_decided.ext E2
  have F_b1_taken := F_b1_taken.ext E2
  have F_b1_branchClass := F_b1_branchClass.ext E2
  have F_b1_first := F_b1_first.ext E2
  have F_b1_step := F_b1_step.ext E2
  have F_b1_next := F_b1_next.ext E2
  have F_b1_last := F_b1_last.ext E2
  have F_b1_classServers := F_b1_classServers.ext E2
  have F_b1_allClasses := F_b1_allClasses.ext E2
  have F_b1_depth := F_b1_depth.ext E2
  have Zs := Nat.le_trans Zs E2.1
  have V_b2 : Arv Z h2 b2 k2 .long (0 : Int32) [] (.long (0 : Int64)) := A2
  refine Gol.callI X2 hx hby hZ hown 1 [(.ref b2)] (a := b1) (hw _ (List.mem_of_getElem? (i := 4) rfl)) (hw _ (List.mem_of_getElem? (i := 5) rfl)) (hw _ (List.mem_of_getElem? (i := 2) rfl)) rfl (hw _ (List.mem_of_getElem? (i := 6) rfl)) rfl (by decide) (rm1 l Z a0 hw [] b1 b2 k2 h2 n0 Zs ⟨E_b1, F_b1_decided, F_b1_taken, F_b1_branchClass, F_b1_first, F_b1_step, F_b1_next, F_b1_last, F_b1_classServers, F_b1_allClasses, F_b1_depth⟩ g_b1 (Nat.lt_of_lt_of_le E_b1'.lt (Nat.le_of_eq g2.symm)) V_b2) (by decide) (by decide) e2 (by rw [hml]; rfl) (rest := [(.ref b1)]) (Nat.le_of_eq rfl) (by decide) (by decide) (lenOf pd_3 rfl) rfl at_26 (pc' := 29) rfl ?_
  intro T3 v3 L3 X3 hQ3
  obtain ⟨rfl, Nq3, hz3, Oq3⟩ := hQ3
  have N3 := Fr.app N0 Nq3
  have Zs := Nat.le_trans Zs hz3
  show GolF _ _ _ _ _ _ _ T3 m 29 #[.val (.int p0), .val (.int p1), .val (.int p2), .val (.int p3), .val (.int p4), .val (.int c0), .val (.int c1), .unset, .unset, .unset, .unset, .unset, .unset, .unset, .unset, .unset, .unset] [(.ref b1)]
  have E_b1 : Exa Z T3.heap b1 "com/example/quorumstone/quorumstone/check/Frames" := by
    obtain ⟨d, t, bc, fi, sp, nx, la, kd, kt, kbc, kfi, ksp, knx, kla, v7, v8, O1, -⟩ := Oq3
    exact O1.1
  refine Gol.astore X3 hx hby at_29 (pc' := 31) rfl rfl (l' := #[.val (.int p0), .val (.int p1), .val (.int p2), .val (.int p3), .val (.int p4), .val (.int c0), .val (.int c1), .val (.ref b1), .unset, .unset, .unset, .unset, .unset, .unset, .unset, .unset, .unset]) rfl ?_
  refine Gol.aload X3 hx hby at_31 (pc' := 33) rfl rfl rfl ?_
  refine Gol.lconst X3 hx hby at_33 (pc' := 34) rfl (z := (0 : Int64)) rfl ?_
  refine Gol.lconst X3 hx hby at_34 (pc' := 35) rfl (z := (0 : Int64)) rfl ?_
  refine Gol.iconst X3 hx hby at_35 (pc' := 36) rfl (z := (0 : Int32)) rfl ?_
  refine Gol.iloadN X3 hx hby at_36 (pc' := 37) rfl rfl ?_
  refine Gol.iloadN X3 hx hby at_37 (pc' := 38) rfl rfl ?_
  refine Gol.iload X3 hx hby at_38 (pc' := 40) rfl rfl ?_
  refine Gol.callV X3 hx hby hZ hown 0 [(.long (0 : Int64)), (.long (0 : Int64)), (.int (0 : Int32)), (.int p0), (.int p1), (.int c0)] (a := b1) (hw _ (List.mem_of_getElem? (i := 29) rfl)) (hw _ (List.mem_of_getElem? (i := 30) rfl)) (notFace_of_selects (args := #[]) (mvT hZ (hw _ (List.mem_of_getElem? (i := 32) rfl)))) (hw _ (List.mem_of_getElem? (i := 32) rfl)) (hw _ (List.mem_of_getElem? (i := 31) rfl)) (hw _ (List.mem_of_getElem? (i := 2) rfl)) (hw _ (List.mem_of_getElem? (i := 33) rfl)) (by decide) E_b1 (rm3a l Z a0 hw [] b1 (0 : Int64) (0 : Int64) (0 : Int32) p0 p1 c0  T3.heap n0 Zs Oq3 g_b1) (by decide) (by decide) rfl (by rw [hml]; rfl) (rest := []) (Nat.le_of_eq rfl) (by decide) (by decide) (lenOf pd_4 rfl) rfl at_40 (pc' := 43) rfl ?_
  intro T4 v4 L4 X4 hQ4
  obtain ⟨rfl, Nq4, hz4, Oq4⟩ := hQ4
  have N4 := Fr.app N3 Nq4
  have Zs := Nat.le_trans Zs hz4
  show GolF _ _ _ _ _ _ _ T4 m 43 #[.val (.int p0), .val (.int p1), .val (.int p2), .val (.int p3), .val (.int p4), .val (.int c0), .val (.int c1), .val (.ref b1), .unset, .unset, .unset, .unset, .unset, .unset, .unset, .unset, .unset] [(.int (0 : Int32))]
  have E_b1 : Exa Z T4.heap b1 "com/example/quorumstone/quorumstone/check/Frames" := by
    obtain ⟨d, t, bc, fi, sp, nx, la, kd, kt, kbc, kfi, ksp, knx, kla, v7, v8, O1, -⟩ := Oq4
    exact O1.1
  refine Gol.istore X4 hx hby at_43 (pc' := 45) rfl (l' := #[.val (.int p0), .val (.int p1), .val (.int p2), .val (.int p3), .val (.int p4), .val (.int c0), .val (.int c1), .val (.ref b1), .val (.int (0 : Int32)), .unset, .unset, .unset, .unset, .unset, .unset, .unset, .unset]) rfl ?_
  refine Gol.aload X4 hx hby at_45 (pc' := 47) rfl rfl rfl ?_
  refine Gol.lconst X4 hx hby at_47 (pc' := 48) rfl (z := (0 : Int64)) rfl ?_
  refine Gol.lconst X4 hx hby at_48 (pc' := 49) rfl (z := (0 : Int64)) rfl ?_
  refine Gol.iconst X4 hx hby at_49 (pc' := 50) rfl (z := (0 : Int32)) rfl ?_
  refine Gol.iloadN X4 hx hby at_50 (pc' := 51) rfl rfl ?_
  refine Gol.iloadN X4 hx hby at_51 (pc' := 52) rfl rfl ?_
  refine Gol.iload X4 hx hby at_52 (pc' := 54) rfl rfl ?_
  refine Gol.callV X4 hx hby hZ hown 0 [(.long (0 : Int64)), (.long (0 : Int64)), (.int (0 : Int32)), (.int p2), (.int p3), (.int c1)] (a := b1) (hw _ (List.mem_of_getElem? (i := 29) rfl)) (hw _ (List.mem_of_getElem? (i := 30) rfl)) (notFace_of_selects (args := #[]) (mvT hZ (hw _ (List.mem_of_getElem? (i := 32) rfl)))) (hw _ (List.mem_of_getElem? (i := 32) rfl)) (hw _ (List.mem_of_getElem? (i := 31) rfl)) (hw _ (List.mem_of_getElem? (i := 2) rfl)) (hw _ (List.mem_of_getElem? (i := 33) rfl)) (by decide) E_b1 (rm3b l Z a0 hw [] b1 (0 : Int64) (0 : Int64) (0 : Int32) p2 p3 c1 (.long (0 : Int64)) (.long (0 : Int64)) (.int (0 : Int32)) (.int p0) (.int p1) (.int (0 : Int32)) (.int (c0 - (1 : Int32))) (.long (0 : Int64)) (.long (0 : Int64)) (.int (0 : Int32)) (.int (0 : Int32)) (.int (0 : Int32)) (.int (0 : Int32)) (.int (0 : Int32)) T4.heap n0 Zs Oq4 g_b1) (by decide) (by decide) rfl (by rw [hml]; rfl) (rest := []) (Nat.le_of_eq rfl) (by decide) (by decide) (lenOf pd_4 rfl) rfl at_54 (pc' := 57) rfl ?_
  intro T5 v5 L5 X5 hQ5
  obtain ⟨rfl, Nq5, hz5, Oq5⟩ := hQ5
  have N5 := Fr.app N4 Nq5
  have Zs := Nat.le_trans Zs hz5
  show GolF _ _ _ _ _ _ _ T5 m 57 #[.val (.int p0), .val (.int p1), .val (.int p2), .val (.int p3), .val (.int p4), .val (.int c0), .val (.int c1), .val (.ref b1), .val (.int (0 : Int32)), .unset, .unset, .unset, .unset, .unset, .unset, .unset, .unset] [(.int (1 : Int32))]
  have E_b1 : Exa Z T5.heap b1 "com/example/quorumstone/quorumstone/check/Frames" := by
    obtain ⟨d, t, bc, fi, sp, nx, la, kd, kt, kbc, kfi, ksp, knx, kla, v7, v8, O1, -⟩ := Oq5
    exact O1.1
  refine Gol.istore X5 hx hby at_57 (pc' := 59) rfl (l' := #[.val (.int p0), .val (.int p1), .val (.int p2), .val (.int p3), .val (.int p4), .val (.int c0), .val (.int c1), .val (.ref b1), .val (.int (0 : Int32)), .val (.int (1 : Int32)), .unset, .unset, .unset, .unset, .unset, .unset, .unset]) rfl ?_
  refine Gol.aload X5 hx hby at_59 (pc' := 61) rfl rfl rfl ?_
  refine Gol.iload X5 hx hby at_61 (pc' := 63) rfl rfl ?_
  refine Gol.callV X5 hx hby hZ hown 0 [(.int (0 : Int32))] (a := b1) (hw _ (List.mem_of_getElem? (i := 54) rfl)) (hw _ (List.mem_of_getElem? (i := 55) rfl)) (notFace_of_selects (args := #[]) (mvT hZ (hw _ (List.mem_of_getElem? (i := 57) rfl)))) (hw _ (List.mem_of_getElem? (i := 57) rfl)) (hw _ (List.mem_of_getElem? (i := 56) rfl)) (hw _ (List.mem_of_getElem? (i := 2) rfl)) (hw _ (List.mem_of_getElem? (i := 58) rfl)) (by decide) E_b1 (rm8_0 l Z a0 hw [] b1 (0 : Int32) (2 : Int32) [(.long (0 : Int64)), (.long (0 : Int64))] [(.long (0 : Int64)), (.long (0 : Int64))] [(.int (0 : Int32)), (.int (0 : Int32))] p0 p1 (0 : Int32) (c0 - (1 : Int32)) (.int p2) (.int p3) (.int (0 : Int32)) (.int (c1 - (1 : Int32))) T5.heap n0 Zs rfl Oq5 g_b1) (by decide) (by decide) rfl (by rw [hml]; rfl) (rest := []) (Nat.le_of_eq rfl) (by decide) (by decide) (lenOf pd_5 rfl) rfl at_63 (pc' := 66) rfl ?_
  intro T6 v6 L6 X6 hQ6
  obtain ⟨rfl, Nq6, hz6, Oq6⟩ := hQ6
  have N6 := Fr.app N5 Nq6
  have Zs := Nat.le_trans Zs hz6
  show GolF _ _ _ _ _ _ _ T6 m 66 #[.val (.int p0), .val (.int p1), .val (.int p2), .val (.int p3), .val (.int p4), .val (.int c0), .val (.int c1), .val (.ref b1), .val (.int (0 : Int32)), .val (.int (1 : Int32)), .unset, .unset, .unset, .unset, .unset, .unset, .unset] [(.int (own_cnt p0 p1 (0 : Int32) (c0 - (1 : Int32))))]
  have E_b1 : Exa Z T6.heap b1 "com/example/quorumstone/quorumstone/check/Frames" := by
    obtain ⟨d, t, bc, fi, sp, nx, la, kd, kt, kbc, kfi, ksp, knx, kla, v7, v8, O1, -⟩ := Oq6
    exact O1.1
  refine Gol.istore X6 hx hby at_66 (pc' := 68) rfl (l' := #[.val (.int p0), .val (.int p1), .val (.int p2), .val (.int p3), .val (.int p4), .val (.int c0), .val (.int c1), .val (.ref b1), .val (.int (0 : Int32)), .val (.int (1 : Int32)), .val (.int (own_cnt p0 p1 (0 : Int32) (c0 - (1 : Int32)))), .unset, .unset, .unset, .unset, .unset, .unset]) rfl ?_
  refine Gol.aload X6 hx hby at_68 (pc' := 70) rfl rfl rfl ?_
  refine Gol.iload X6 hx hby at_70 (pc' := 72) rfl rfl ?_
  refine Gol.callV X6 hx hby hZ hown 0 [(.int (1 : Int32))] (a := b1) (hw _ (List.mem_of_getElem? (i := 54) rfl)) (hw _ (List.mem_of_getElem? (i := 55) rfl)) (notFace_of_selects (args := #[]) (mvT hZ (hw _ (List.mem_of_getElem? (i := 57) rfl)))) (hw _ (List.mem_of_getElem? (i := 57) rfl)) (hw _ (List.mem_of_getElem? (i := 56) rfl)) (hw _ (List.mem_of_getElem? (i := 2) rfl)) (hw _ (List.mem_of_getElem? (i := 58) rfl)) (by decide) E_b1 (rm8_1 l Z a0 hw [] b1 (1 : Int32) (2 : Int32) [(.long (0 : Int64)), (.long (0 : Int64))] [(.long (0 : Int64)), (.long (0 : Int64))] [(.int (0 : Int32)), (.int (0 : Int32))] p2 p3 (0 : Int32) (c1 - (1 : Int32)) (.int p0) (.int p1) (.int (own_nx (0 : Int32) (c0 - (1 : Int32)))) (.int (c0 - (1 : Int32))) T6.heap n0 Zs rfl Oq6 g_b1) (by decide) (by decide) rfl (by rw [hml]; rfl) (rest := []) (Nat.le_of_eq rfl) (by decide) (by decide) (lenOf pd_5 rfl) rfl at_72 (pc' := 75) rfl ?_
  intro T7 v7 L7 X7 hQ7
  obtain ⟨rfl, Nq7, hz7, Oq7⟩ := hQ7
  have N7 := Fr.app N6 Nq7
  have Zs := Nat.le_trans Zs hz7
  show GolF _ _ _ _ _ _ _ T7 m 75 #[.val (.int p0), .val (.int p1), .val (.int p2), .val (.int p3), .val (.int p4), .val (.int c0), .val (.int c1), .val (.ref b1), .val (.int (0 : Int32)), .val (.int (1 : Int32)), .val (.int (own_cnt p0 p1 (0 : Int32) (c0 - (1 : Int32)))), .unset, .unset, .unset, .unset, .unset, .unset] [(.int (own_cnt p2 p3 (0 : Int32) (c1 - (1 : Int32))))]
  have E_b1 : Exa Z T7.heap b1 "com/example/quorumstone/quorumstone/check/Frames" := by
    obtain ⟨d, t, bc, fi, sp, nx, la, kd, kt, kbc, kfi, ksp, knx, kla, v7, v8, O1, -⟩ := Oq7
    exact O1.1
  refine Gol.istore X7 hx hby at_75 (pc' := 77) rfl (l' := #[.val (.int p0), .val (.int p1), .val (.int p2), .val (.int p3), .val (.int p4), .val (.int c0), .val (.int c1), .val (.ref b1), .val (.int (0 : Int32)), .val (.int (1 : Int32)), .val (.int (own_cnt p0 p1 (0 : Int32) (c0 - (1 : Int32)))), .val (.int (own_cnt p2 p3 (0 : Int32) (c1 - (1 : Int32)))), .unset, .unset, .unset, .unset, .unset]) rfl ?_
  refine Gol.aload X7 hx hby at_77 (pc' := 79) rfl rfl rfl ?_
  refine Gol.iload X7 hx hby at_79 (pc' := 81) rfl rfl ?_
  refine Gol.callV X7 hx hby hZ hown 0 [(.int (0 : Int32))] (a := b1) (hw _ (List.mem_of_getElem? (i := 54) rfl)) (hw _ (List.mem_of_getElem? (i := 55) rfl)) (notFace_of_selects (args := #[]) (mvT hZ (hw _ (List.mem_of_getElem? (i := 57) rfl)))) (hw _ (List.mem_of_getElem? (i := 57) rfl)) (hw _ (List.mem_of_getElem? (i := 56) rfl)) (hw _ (List.mem_of_getElem? (i := 2) rfl)) (hw _ (List.mem_of_getElem? (i := 58) rfl)) (by decide) E_b1 (rm8_0 l Z a0 hw [] b1 (0 : Int32) (2 : Int32) [(.long (0 : Int64)), (.long (0 : Int64))] [(.long (0 : Int64)), (.long (0 : Int64))] [(.int (0 : Int32)), (.int (0 : Int32))] p0 p1 (own_nx (0 : Int32) (c0 - (1 : Int32))) (c0 - (1 : Int32)) (.int p2) (.int p3) (.int (own_nx (0 : Int32) (c1 - (1 : Int32)))) (.int (c1 - (1 : Int32))) T7.heap n0 Zs rfl Oq7 g_b1) (by decide) (by decide) rfl (by rw [hml]; rfl) (rest := []) (Nat.le_of_eq rfl) (by decide) (by decide) (lenOf pd_5 rfl) rfl at_81 (pc' := 84) rfl ?_
  intro T8 v8 L8 X8 hQ8
  obtain ⟨rfl, Nq8, hz8, Oq8⟩ := hQ8
  have N8 := Fr.app N7 Nq8
  have Zs := Nat.le_trans Zs hz8
  show GolF _ _ _ _ _ _ _ T8 m 84 #[.val (.int p0), .val (.int p1), .val (.int p2), .val (.int p3), .val (.int p4), .val (.int c0), .val (.int c1), .val (.ref b1), .val (.int (0 : Int32)), .val (.int (1 : Int32)), .val (.int (own_cnt p0 p1 (0 : Int32) (c0 - (1 : Int32)))), .val (.int (own_cnt p2 p3 (0 : Int32) (c1 - (1 : Int32)))), .unset, .unset, .unset, .unset, .unset] [(.int (own_cnt p0 p1 (own_nx (0 : Int32) (c0 - (1 : Int32))) (c0 - (1 : Int32))))]
  have E_b1 : Exa Z T8.heap b1 "com/example/quorumstone/quorumstone/check/Frames" := by
    obtain ⟨d, t, bc, fi, sp, nx, la, kd, kt, kbc, kfi, ksp, knx, kla, v7, v8, O1, -⟩ := Oq8
    exact O1.1
  refine Gol.istore X8 hx hby at_84 (pc' := 86) rfl (l' := #[.val (.int p0), .val (.int p1), .val (.int p2), .val (.int p3), .val (.int p4), .val (.int c0), .val (.int c1), .val (.ref b1), .val (.int (0 : Int32)), .val (.int (1 : Int32)), .val (.int (own_cnt p0 p1 (0 : Int32) (c0 - (1 : Int32)))), .val (.int (own_cnt p2 p3 (0 : Int32) (c1 - (1 : Int32)))), .val (.int (own_cnt p0 p1 (own_nx (0 : Int32) (c0 - (1 : Int32))) (c0 - (1 : Int32)))), .unset, .unset, .unset, .unset]) rfl ?_
  refine Gol.aload X8 hx hby at_86 (pc' := 88) rfl rfl rfl ?_
  refine Gol.iload X8 hx hby at_88 (pc' := 90) rfl rfl ?_
  refine Gol.callV X8 hx hby hZ hown 0 [(.int (0 : Int32))] (a := b1) (hw _ (List.mem_of_getElem? (i := 54) rfl)) (hw _ (List.mem_of_getElem? (i := 55) rfl)) (notFace_of_selects (args := #[]) (mvT hZ (hw _ (List.mem_of_getElem? (i := 57) rfl)))) (hw _ (List.mem_of_getElem? (i := 57) rfl)) (hw _ (List.mem_of_getElem? (i := 56) rfl)) (hw _ (List.mem_of_getElem? (i := 2) rfl)) (hw _ (List.mem_of_getElem? (i := 58) rfl)) (by decide) E_b1 (rm8_0 l Z a0 hw [] b1 (0 : Int32) (2 : Int32) [(.long (0 : Int64)), (.long (0 : Int64))] [(.long (0 : Int64)), (.long (0 : Int64))] [(.int (0 : Int32)), (.int (0 : Int32))] p0 p1 (own_nx (own_nx (0 : Int32) (c0 - (1 : Int32))) (c0 - (1 : Int32))) (c0 - (1 : Int32)) (.int p2) (.int p3) (.int (own_nx (0 : Int32) (c1 - (1 : Int32)))) (.int (c1 - (1 : Int32))) T8.heap n0 Zs rfl Oq8 g_b1) (by decide) (by decide) rfl (by rw [hml]; rfl) (rest := []) (Nat.le_of_eq rfl) (by decide) (by decide) (lenOf pd_5 rfl) rfl at_90 (pc' := 93) rfl ?_
  intro T9 v9 L9 X9 hQ9
  obtain ⟨rfl, Nq9, hz9, Oq9⟩ := hQ9
  have N9 := Fr.app N8 Nq9
  have Zs := Nat.le_trans Zs hz9
  show GolF _ _ _ _ _ _ _ T9 m 93 #[.val (.int p0), .val (.int p1), .val (.int p2), .val (.int p3), .val (.int p4), .val (.int c0), .val (.int c1), .val (.ref b1), .val (.int (0 : Int32)), .val (.int (1 : Int32)), .val (.int (own_cnt p0 p1 (0 : Int32) (c0 - (1 : Int32)))), .val (.int (own_cnt p2 p3 (0 : Int32) (c1 - (1 : Int32)))), .val (.int (own_cnt p0 p1 (own_nx (0 : Int32) (c0 - (1 : Int32))) (c0 - (1 : Int32)))), .unset, .unset, .unset, .unset] [(.int (own_cnt p0 p1 (own_nx (own_nx (0 : Int32) (c0 - (1 : Int32))) (c0 - (1 : Int32))) (c0 - (1 : Int32))))]
  have E_b1 : Exa Z T9.heap b1 "com/example/quorumstone/quorumstone/check/Frames" := by
    obtain ⟨d, t, bc, fi, sp, nx, la, kd, kt, kbc, kfi, ksp, knx, kla, v7, v8, O1, -⟩ := Oq9
    exact O1.1
  refine Gol.istore X9 hx hby at_93 (pc' := 95) rfl (l' := #[.val (.int p0), .val (.int p1), .val (.int p2), .val (.int p3), .val (.int p4), .val (.int c0), .val (.int c1), .val (.ref b1), .val (.int (0 : Int32)), .val (.int (1 : Int32)), .val (.int (own_cnt p0 p1 (0 : Int32) (c0 - (1 : Int32)))), .val (.int (own_cnt p2 p3 (0 : Int32) (c1 - (1 : Int32)))), .val (.int (own_cnt p0 p1 (own_nx (0 : Int32) (c0 - (1 : Int32))) (c0 - (1 : Int32)))), .val (.int (own_cnt p0 p1 (own_nx (own_nx (0 : Int32) (c0 - (1 : Int32))) (c0 - (1 : Int32))) (c0 - (1 : Int32)))), .unset, .unset, .unset]) rfl ?_
  refine Gol.aload X9 hx hby at_95 (pc' := 97) rfl rfl rfl ?_
  refine Gol.iload X9 hx hby at_97 (pc' := 99) rfl rfl ?_
  refine Gol.callV X9 hx hby hZ hown 0 [(.int (1 : Int32))] (a := b1) (hw _ (List.mem_of_getElem? (i := 54) rfl)) (hw _ (List.mem_of_getElem? (i := 55) rfl)) (notFace_of_selects (args := #[]) (mvT hZ (hw _ (List.mem_of_getElem? (i := 57) rfl)))) (hw _ (List.mem_of_getElem? (i := 57) rfl)) (hw _ (List.mem_of_getElem? (i := 56) rfl)) (hw _ (List.mem_of_getElem? (i := 2) rfl)) (hw _ (List.mem_of_getElem? (i := 58) rfl)) (by decide) E_b1 (rm8_1 l Z a0 hw [] b1 (1 : Int32) (2 : Int32) [(.long (0 : Int64)), (.long (0 : Int64))] [(.long (0 : Int64)), (.long (0 : Int64))] [(.int (0 : Int32)), (.int (0 : Int32))] p2 p3 (own_nx (0 : Int32) (c1 - (1 : Int32))) (c1 - (1 : Int32)) (.int p0) (.int p1) (.int (own_nx (own_nx (own_nx (0 : Int32) (c0 - (1 : Int32))) (c0 - (1 : Int32))) (c0 - (1 : Int32)))) (.int (c0 - (1 : Int32))) T9.heap n0 Zs rfl Oq9 g_b1) (by decide) (by decide) rfl (by rw [hml]; rfl) (rest := []) (Nat.le_of_eq rfl) (by decide) (by decide) (lenOf pd_5 rfl) rfl at_99 (pc' := 102) rfl ?_
  intro T10 v10 L10 X10 hQ10
  obtain ⟨rfl, Nq10, hz10, Oq10⟩ := hQ10
  have N10 := Fr.app N9 Nq10
  have Zs := Nat.le_trans Zs hz10
  show GolF _ _ _ _ _ _ _ T10 m 102 #[.val (.int p0), .val (.int p1), .val (.int p2), .val (.int p3), .val (.int p4), .val (.int c0), .val (.int c1), .val (.ref b1), .val (.int (0 : Int32)), .val (.int (1 : Int32)), .val (.int (own_cnt p0 p1 (0 : Int32) (c0 - (1 : Int32)))), .val (.int (own_cnt p2 p3 (0 : Int32) (c1 - (1 : Int32)))), .val (.int (own_cnt p0 p1 (own_nx (0 : Int32) (c0 - (1 : Int32))) (c0 - (1 : Int32)))), .val (.int (own_cnt p0 p1 (own_nx (own_nx (0 : Int32) (c0 - (1 : Int32))) (c0 - (1 : Int32))) (c0 - (1 : Int32)))), .unset, .unset, .unset] [(.int (own_cnt p2 p3 (own_nx (0 : Int32) (c1 - (1 : Int32))) (c1 - (1 : Int32))))]
  have E_b1 : Exa Z T10.heap b1 "com/example/quorumstone/quorumstone/check/Frames" := by
    obtain ⟨d, t, bc, fi, sp, nx, la, kd, kt, kbc, kfi, ksp, knx, kla, v7, v8, O1, -⟩ := Oq10
    exact O1.1
  refine Gol.istore X10 hx hby at_102 (pc' := 104) rfl (l' := #[.val (.int p0), .val (.int p1), .val (.int p2), .val (.int p3), .val (.int p4), .val (.int c0), .val (.int c1), .val (.ref b1), .val (.int (0 : Int32)), .val (.int (1 : Int32)), .val (.int (own_cnt p0 p1 (0 : Int32) (c0 - (1 : Int32)))), .val (.int (own_cnt p2 p3 (0 : Int32) (c1 - (1 : Int32)))), .val (.int (own_cnt p0 p1 (own_nx (0 : Int32) (c0 - (1 : Int32))) (c0 - (1 : Int32)))), .val (.int (own_cnt p0 p1 (own_nx (own_nx (0 : Int32) (c0 - (1 : Int32))) (c0 - (1 : Int32))) (c0 - (1 : Int32)))), .val (.int (own_cnt p2 p3 (own_nx (0 : Int32) (c1 - (1 : Int32))) (c1 - (1 : Int32)))), .unset, .unset]) rfl ?_
  refine Gol.aload X10 hx hby at_104 (pc' := 106) rfl rfl rfl ?_
  refine Gol.iload X10 hx hby at_106 (pc' := 108) rfl rfl ?_
  refine Gol.callV X10 hx hby hZ hown 0 [(.int (0 : Int32))] (a := b1) (hw _ (List.mem_of_getElem? (i := 54) rfl)) (hw _ (List.mem_of_getElem? (i := 55) rfl)) (notFace_of_selects (args := #[]) (mvT hZ (hw _ (List.mem_of_getElem? (i := 57) rfl)))) (hw _ (List.mem_of_getElem? (i := 57) rfl)) (hw _ (List.mem_of_getElem? (i := 56) rfl)) (hw _ (List.mem_of_getElem? (i := 2) rfl)) (hw _ (List.mem_of_getElem? (i := 58) rfl)) (by decide) E_b1 (rm8_0 l Z a0 hw [] b1 (0 : Int32) (2 : Int32) [(.long (0 : Int64)), (.long (0 : Int64))] [(.long (0 : Int64)), (.long (0 : Int64))] [(.int (0 : Int32)), (.int (0 : Int32))] p0 p1 (own_nx (own_nx (own_nx (0 : Int32) (c0 - (1 : Int32))) (c0 - (1 : Int32))) (c0 - (1 : Int32))) (c0 - (1 : Int32)) (.int p2) (.int p3) (.int (own_nx (own_nx (0 : Int32) (c1 - (1 : Int32))) (c1 - (1 : Int32)))) (.int (c1 - (1 : Int32))) T10.heap n0 Zs rfl Oq10 g_b1) (by decide) (by decide) rfl (by rw [hml]; rfl) (rest := []) (Nat.le_of_eq rfl) (by decide) (by decide) (lenOf pd_5 rfl) rfl at_108 (pc' := 111) rfl ?_
  intro T11 v11 L11 X11 hQ11
  obtain ⟨rfl, Nq11, hz11, Oq11⟩ := hQ11
  have N11 := Fr.app N10 Nq11
  have Zs := Nat.le_trans Zs hz11
  show GolF _ _ _ _ _ _ _ T11 m 111 #[.val (.int p0), .val (.int p1), .val (.int p2), .val (.int p3), .val (.int p4), .val (.int c0), .val (.int c1), .val (.ref b1), .val (.int (0 : Int32)), .val (.int (1 : Int32)), .val (.int (own_cnt p0 p1 (0 : Int32) (c0 - (1 : Int32)))), .val (.int (own_cnt p2 p3 (0 : Int32) (c1 - (1 : Int32)))), .val (.int (own_cnt p0 p1 (own_nx (0 : Int32) (c0 - (1 : Int32))) (c0 - (1 : Int32)))), .val (.int (own_cnt p0 p1 (own_nx (own_nx (0 : Int32) (c0 - (1 : Int32))) (c0 - (1 : Int32))) (c0 - (1 : Int32)))), .val (.int (own_cnt p2 p3 (own_nx (0 : Int32) (c1 - (1 : Int32))) (c1 - (1 : Int32)))), .unset, .unset] [(.int (own_cnt p0 p1 (own_nx (own_nx (own_nx (0 : Int32) (c0 - (1 : Int32))) (c0 - (1 : Int32))) (c0 - (1 : Int32))) (c0 - (1 : Int32))))]
  have E_b1 : Exa Z T11.heap b1 "com/example/quorumstone/quorumstone/check/Frames" := by
    obtain ⟨d, t, bc, fi, sp, nx, la, kd, kt, kbc, kfi, ksp, knx, kla, v7, v8, O1, -⟩ := Oq11
    exact O1.1
  refine Gol.istore X11 hx hby at_111 (pc' := 113) rfl (l' := #[.val (.int p0), .val (.int p1), .val (.int p2), .val (.int p3), .val (.int p4), .val (.int c0), .val (.int c1), .val (.ref b1), .val (.int (0 : Int32)), .val (.int (1 : Int32)), .val (.int (own_cnt p0 p1 (0 : Int32) (c0 - (1 : Int32)))), .val (.int (own_cnt p2 p3 (0 : Int32) (c1 - (1 : Int32)))), .val (.int (own_cnt p0 p1 (own_nx (0 : Int32) (c0 - (1 : Int32))) (c0 - (1 : Int32)))), .val (.int (own_cnt p0 p1 (own_nx (own_nx (0 : Int32) (c0 - (1 : Int32))) (c0 - (1 : Int32))) (c0 - (1 : Int32)))), .val (.int (own_cnt p2 p3 (own_nx (0 : Int32) (c1 - (1 : Int32))) (c1 - (1 : Int32)))), .val (.int (own_cnt p0 p1 (own_nx (own_nx (own_nx (0 : Int32) (c0 - (1 : Int32))) (c0 - (1 : Int32))) (c0 - (1 : Int32))) (c0 - (1 : Int32)))), .unset]) rfl ?_
  refine Gol.aload X11 hx hby at_113 (pc' := 115) rfl rfl rfl ?_
  refine Gol.iload X11 hx hby at_115 (pc' := 117) rfl rfl ?_
  refine Gol.callV X11 hx hby hZ hown 0 [(.int (1 : Int32))] (a := b1) (hw _ (List.mem_of_getElem? (i := 54) rfl)) (hw _ (List.mem_of_getElem? (i := 55) rfl)) (notFace_of_selects (args := #[]) (mvT hZ (hw _ (List.mem_of_getElem? (i := 57) rfl)))) (hw _ (List.mem_of_getElem? (i := 57) rfl)) (hw _ (List.mem_of_getElem? (i := 56) rfl)) (hw _ (List.mem_of_getElem? (i := 2) rfl)) (hw _ (List.mem_of_getElem? (i := 58) rfl)) (by decide) E_b1 (rm8_1 l Z a0 hw [] b1 (1 : Int32) (2 : Int32) [(.long (0 : Int64)), (.long (0 : Int64))] [(.long (0 : Int64)), (.long (0 : Int64))] [(.int (0 : Int32)), (.int (0 : Int32))] p2 p3 (own_nx (own_nx (0 : Int32) (c1 - (1 : Int32))) (c1 - (1 : Int32))) (c1 - (1 : Int32)) (.int p0) (.int p1) (.int (own_nx (own_nx (own_nx (own_nx (0 : Int32) (c0 - (1 : Int32))) (c0 - (1 : Int32))) (c0 - (1 : Int32))) (c0 - (1 : Int32)))) (.int (c0 - (1 : Int32))) T11.heap n0 Zs rfl Oq11 g_b1) (by decide) (by decide) rfl (by rw [hml]; rfl) (rest := []) (Nat.le_of_eq rfl) (by decide) (by decide) (lenOf pd_5 rfl) rfl at_117 (pc' := 120) rfl ?_
  intro T12 v12 L12 X12 hQ12
  obtain ⟨rfl, Nq12, hz12, Oq12⟩ := hQ12
  have N12 := Fr.app N11 Nq12
  have Zs := Nat.le_trans Zs hz12
  show GolF _ _ _ _ _ _ _ T12 m 120 #[.val (.int p0), .val (.int p1), .val (.int p2), .val (.int p3), .val (.int p4), .val (.int c0), .val (.int c1), .val (.ref b1), .val (.int (0 : Int32)), .val (.int (1 : Int32)), .val (.int (own_cnt p0 p1 (0 : Int32) (c0 - (1 : Int32)))), .val (.int (own_cnt p2 p3 (0 : Int32) (c1 - (1 : Int32)))), .val (.int (own_cnt p0 p1 (own_nx (0 : Int32) (c0 - (1 : Int32))) (c0 - (1 : Int32)))), .val (.int (own_cnt p0 p1 (own_nx (own_nx (0 : Int32) (c0 - (1 : Int32))) (c0 - (1 : Int32))) (c0 - (1 : Int32)))), .val (.int (own_cnt p2 p3 (own_nx (0 : Int32) (c1 - (1 : Int32))) (c1 - (1 : Int32)))), .val (.int (own_cnt p0 p1 (own_nx (own_nx (own_nx (0 : Int32) (c0 - (1 : Int32))) (c0 - (1 : Int32))) (c0 - (1 : Int32))) (c0 - (1 : Int32)))), .unset] [(.int (own_cnt p2 p3 (own_nx (own_nx (0 : Int32) (c1 - (1 : Int32))) (c1 - (1 : Int32))) (c1 - (1 : Int32))))]
  have E_b1 : Exa Z T12.heap b1 "com/example/quorumstone/quorumstone/check/Frames" := by
    obtain ⟨d, t, bc, fi, sp, nx, la, kd, kt, kbc, kfi, ksp, knx, kla, v7, v8, O1, -⟩ := Oq12
    exact O1.1
  refine Gol.istore X12 hx hby at_120 (pc' := 122) rfl (l' := #[.val (.int p0), .val (.int p1), .val (.int p2), .val (.int p3), .val (.int p4), .val (.int c0), .val (.int c1), .val (.ref b1), .val (.int (0 : Int32)), .val (.int (1 : Int32)), .val (.int (own_cnt p0 p1 (0 : Int32) (c0 - (1 : Int32)))), .val (.int (own_cnt p2 p3 (0 : Int32) (c1 - (1 : Int32)))), .val (.int (own_cnt p0 p1 (own_nx (0 : Int32) (c0 - (1 : Int32))) (c0 - (1 : Int32)))), .val (.int (own_cnt p0 p1 (own_nx (own_nx (0 : Int32) (c0 - (1 : Int32))) (c0 - (1 : Int32))) (c0 - (1 : Int32)))), .val (.int (own_cnt p2 p3 (own_nx (0 : Int32) (c1 - (1 : Int32))) (c1 - (1 : Int32)))), .val (.int (own_cnt p0 p1 (own_nx (own_nx (own_nx (0 : Int32) (c0 - (1 : Int32))) (c0 - (1 : Int32))) (c0 - (1 : Int32))) (c0 - (1 : Int32)))), .val (.int (own_cnt p2 p3 (own_nx (own_nx (0 : Int32) (c1 - (1 : Int32))) (c1 - (1 : Int32))) (c1 - (1 : Int32))))]) rfl ?_
  refine Gol.iload X12 hx hby at_122 (pc' := 124) rfl rfl ?_
  refine Gol.ifNo X12 hx hby at_124 (pc' := 127) rfl ((if0 _ _).trans (teq (by decide : (0 : Int32) = (0 : Int32))).2) ?_
  refine Gol.iload X12 hx hby at_127 (pc' := 129) rfl rfl ?_
  refine Gol.iconst X12 hx hby at_129 (pc' := 130) rfl (z := (1 : Int32)) rfl ?_
  refine Gol.icmpNo X12 hx hby at_130 (pc' := 133) rfl (teq (by decide : (1 : Int32) = (1 : Int32))).2 ?_
  refine Gol.iload X12 hx hby at_133 (pc' := 135) rfl rfl ?_
  refine Gol.iloadN X12 hx hby at_135 (pc' := 136) rfl rfl ?_
  refine Gol.iloadN X12 hx hby at_136 (pc' := 137) rfl rfl ?_
  refine Gol.iload X12 hx hby at_137 (pc' := 139) rfl rfl ?_
  refine Gol.iconst X12 hx hby at_139 (pc' := 140) rfl (z := (0 : Int32)) rfl ?_
  refine Gol.callS X12 hx hby hZ hown 1 [(.int p0), (.int p1), (.int c0), (.int (0 : Int32))] (hw _ (List.mem_of_getElem? (i := 59) rfl)) (hw _ (List.mem_of_getElem? (i := 60) rfl)) (hw _ (List.mem_of_getElem? (i := 61) rfl)) (hw _ (List.mem_of_getElem? (i := 62) rfl)) (by decide) (rm9 l Z a0 hw [] p0 p1 c0 (0 : Int32)  T12.heap n0 Zs ) (by decide) (by decide) rfl (by rw [hml]; rfl) (rest := [(.int (own_cnt p0 p1 (0 : Int32) (c0 - (1 : Int32))))]) (Nat.le_of_eq rfl) (by decide) (by decide) (lenOf pd_6 rfl) rfl at_140 (pc' := 143) rfl ?_
  intro T13 v13 L13 X13 hQ13
  obtain ⟨rfl, Nq13, eq13⟩ := hQ13
  have N13 := Fr.app N12 Nq13
  show GolF _ _ _ _ _ _ _ T13 m 143 #[.val (.int p0), .val (.int p1), .val (.int p2), .val (.int p3), .val (.int p4), .val (.int c0), .val (.int c1), .val (.ref b1), .val (.int (0 : Int32)), .val (.int (1 : Int32)), .val (.int (own_cnt p0 p1 (0 : Int32) (c0 - (1 : Int32)))), .val (.int (own_cnt p2 p3 (0 : Int32) (c1 - (1 : Int32)))), .val (.int (own_cnt p0 p1 (own_nx (0 : Int32) (c0 - (1 : Int32))) (c0 - (1 : Int32)))), .val (.int (own_cnt p0 p1 (own_nx (own_nx (0 : Int32) (c0 - (1 : Int32))) (c0 - (1 : Int32))) (c0 - (1 : Int32)))), .val (.int (own_cnt p2 p3 (own_nx (0 : Int32) (c1 - (1 : Int32))) (c1 - (1 : Int32)))), .val (.int (own_cnt p0 p1 (own_nx (own_nx (own_nx (0 : Int32) (c0 - (1 : Int32))) (c0 - (1 : Int32))) (c0 - (1 : Int32))) (c0 - (1 : Int32)))), .val (.int (own_cnt p2 p3 (own_nx (own_nx (0 : Int32) (c1 - (1 : Int32))) (c1 - (1 : Int32))) (c1 - (1 : Int32))))] [(.int (f9 p0 p1 c0 (0 : Int32) )), (.int (own_cnt p0 p1 (0 : Int32) (c0 - (1 : Int32))))]
  refine Gol.icmpNo X13 hx hby at_143 (pc' := 146) rfl (teq (own_a p0 p1 c0 (own_c0 hc0)).1).2 ?_
  refine Gol.iload X13 hx hby at_146 (pc' := 148) rfl rfl ?_
  refine Gol.iloadN X13 hx hby at_148 (pc' := 149) rfl rfl ?_
  refine Gol.iloadN X13 hx hby at_149 (pc' := 150) rfl rfl ?_
  refine Gol.iload X13 hx hby at_150 (pc' := 152) rfl rfl ?_
  refine Gol.iconst X13 hx hby at_152 (pc' := 153) rfl (z := (1 : Int32)) rfl ?_
  refine Gol.callS X13 hx hby hZ hown 1 [(.int p0), (.int p1), (.int c0), (.int (1 : Int32))] (hw _ (List.mem_of_getElem? (i := 59) rfl)) (hw _ (List.mem_of_getElem? (i := 60) rfl)) (hw _ (List.mem_of_getElem? (i := 61) rfl)) (hw _ (List.mem_of_getElem? (i := 62) rfl)) (by decide) (rm9 l Z a0 hw [] p0 p1 c0 (1 : Int32)  T12.heap n0 Zs ) (by decide) (by decide) eq13 (by rw [hml]; rfl) (rest := [(.int (own_cnt p0 p1 (own_nx (0 : Int32) (c0 - (1 : Int32))) (c0 - (1 : Int32))))]) (Nat.le_of_eq rfl) (by decide) (by decide) (lenOf pd_6 rfl) rfl at_153 (pc' := 156) rfl ?_
  intro T14 v14 L14 X14 hQ14
  obtain ⟨rfl, Nq14, eq14⟩ := hQ14
  have N14 := Fr.app N13 Nq14
  show GolF _ _ _ _ _ _ _ T14 m 156 #[.val (.int p0), .val (.int p1), .val (.int p2), .val (.int p3), .val (.int p4), .val (.int c0), .val (.int c1), .val (.ref b1), .val (.int (0 : Int32)), .val (.int (1 : Int32)), .val (.int (own_cnt p0 p1 (0 : Int32) (c0 - (1 : Int32)))), .val (.int (own_cnt p2 p3 (0 : Int32) (c1 - (1 : Int32)))), .val (.int (own_cnt p0 p1 (own_nx (0 : Int32) (c0 - (1 : Int32))) (c0 - (1 : Int32)))), .val (.int (own_cnt p0 p1 (own_nx (own_nx (0 : Int32) (c0 - (1 : Int32))) (c0 - (1 : Int32))) (c0 - (1 : Int32)))), .val (.int (own_cnt p2 p3 (own_nx (0 : Int32) (c1 - (1 : Int32))) (c1 - (1 : Int32)))), .val (.int (own_cnt p0 p1 (own_nx (own_nx (own_nx (0 : Int32) (c0 - (1 : Int32))) (c0 - (1 : Int32))) (c0 - (1 : Int32))) (c0 - (1 : Int32)))), .val (.int (own_cnt p2 p3 (own_nx (own_nx (0 : Int32) (c1 - (1 : Int32))) (c1 - (1 : Int32))) (c1 - (1 : Int32))))] [(.int (f9 p0 p1 c0 (1 : Int32) )), (.int (own_cnt p0 p1 (own_nx (0 : Int32) (c0 - (1 : Int32))) (c0 - (1 : Int32))))]
  refine Gol.icmpNo X14 hx hby at_156 (pc' := 159) rfl (teq (own_a p0 p1 c0 (own_c0 hc0)).2.1).2 ?_
  refine Gol.iload X14 hx hby at_159 (pc' := 161) rfl rfl ?_
  refine Gol.iloadN X14 hx hby at_161 (pc' := 162) rfl rfl ?_
  refine Gol.iloadN X14 hx hby at_162 (pc' := 163) rfl rfl ?_
  refine Gol.iload X14 hx hby at_163 (pc' := 165) rfl rfl ?_
  refine Gol.iconst X14 hx hby at_165 (pc' := 166) rfl (z := (2 : Int32)) rfl ?_
  refine Gol.callS X14 hx hby hZ hown 1 [(.int p0), (.int p1), (.int c0), (.int (2 : Int32))] (hw _ (List.mem_of_getElem? (i := 59) rfl)) (hw _ (List.mem_of_getElem? (i := 60) rfl)) (hw _ (List.mem_of_getElem? (i := 61) rfl)) (hw _ (List.mem_of_getElem? (i := 62) rfl)) (by decide) (rm9 l Z a0 hw [] p0 p1 c0 (2 : Int32)  T12.heap n0 Zs ) (by decide) (by decide) eq14 (by rw [hml]; rfl) (rest := [(.int (own_cnt p0 p1 (own_nx (own_nx (0 : Int32) (c0 - (1 : Int32))) (c0 - (1 : Int32))) (c0 - (1 : Int32))))]) (Nat.le_of_eq rfl) (by decide) (by decide) (lenOf pd_6 rfl) rfl at_166 (pc' := 169) rfl ?_
  intro T15 v15 L15 X15 hQ15
  obtain ⟨rfl, Nq15, eq15⟩ := hQ15
  have N15 := Fr.app N14 Nq15
  show GolF _ _ _ _ _ _ _ T15 m 169 #[.val (.int p0), .val (.int p1), .val (.int p2), .val (.int p3), .val (.int p4), .val (.int c0), .val (.int c1), .val (.ref b1), .val (.int (0 : Int32)), .val (.int (1 : Int32)), .val (.int (own_cnt p0 p1 (0 : Int32) (c0 - (1 : Int32)))), .val (.int (own_cnt p2 p3 (0 : Int32) (c1 - (1 : Int32)))), .val (.int (own_cnt p0 p1 (own_nx (0 : Int32) (c0 - (1 : Int32))) (c0 - (1 : Int32)))), .val (.int (own_cnt p0 p1 (own_nx (own_nx (0 : Int32) (c0 - (1 : Int32))) (c0 - (1 : Int32))) (c0 - (1 : Int32)))), .val (.int (own_cnt p2 p3 (own_nx (0 : Int32) (c1 - (1 : Int32))) (c1 - (1 : Int32)))), .val (.int (own_cnt p0 p1 (own_nx (own_nx (own_nx (0 : Int32) (c0 - (1 : Int32))) (c0 - (1 : Int32))) (c0 - (1 : Int32))) (c0 - (1 : Int32)))), .val (.int (own_cnt p2 p3 (own_nx (own_nx (0 : Int32) (c1 - (1 : Int32))) (c1 - (1 : Int32))) (c1 - (1 : Int32))))] [(.int (f9 p0 p1 c0 (2 : Int32) )), (.int (own_cnt p0 p1 (own_nx (own_nx (0 : Int32) (c0 - (1 : Int32))) (c0 - (1 : Int32))) (c0 - (1 : Int32))))]
  refine Gol.icmpNo X15 hx hby at_169 (pc' := 172) rfl (teq (own_a p0 p1 c0 (own_c0 hc0)).2.2.1).2 ?_
  refine Gol.iload X15 hx hby at_172 (pc' := 174) rfl rfl ?_
  refine Gol.iloadN X15 hx hby at_174 (pc' := 175) rfl rfl ?_
  refine Gol.iloadN X15 hx hby at_175 (pc' := 176) rfl rfl ?_
  refine Gol.iload X15 hx hby at_176 (pc' := 178) rfl rfl ?_
  refine Gol.iconst X15 hx hby at_178 (pc' := 179) rfl (z := (3 : Int32)) rfl ?_
  refine Gol.callS X15 hx hby hZ hown 1 [(.int p0), (.int p1), (.int c0), (.int (3 : Int32))] (hw _ (List.mem_of_getElem? (i := 59) rfl)) (hw _ (List.mem_of_getElem? (i := 60) rfl)) (hw _ (List.mem_of_getElem? (i := 61) rfl)) (hw _ (List.mem_of_getElem? (i := 62) rfl)) (by decide) (rm9 l Z a0 hw [] p0 p1 c0 (3 : Int32)  T12.heap n0 Zs ) (by decide) (by decide) eq15 (by rw [hml]; rfl) (rest := [(.int (own_cnt p0 p1 (own_nx (own_nx (own_nx (0 : Int32) (c0 - (1 : Int32))) (c0 - (1 : Int32))) (c0 - (1 : Int32))) (c0 - (1 : Int32))))]) (Nat.le_of_eq rfl) (by decide) (by decide) (lenOf pd_6 rfl) rfl at_179 (pc' := 182) rfl ?_
  intro T16 v16 L16 X16 hQ16
  obtain ⟨rfl, Nq16, eq16⟩ := hQ16
  have N16 := Fr.app N15 Nq16
  show GolF _ _ _ _ _ _ _ T16 m 182 #[.val (.int p0), .val (.int p1), .val (.int p2), .val (.int p3), .val (.int p4), .val (.int c0), .val (.int c1), .val (.ref b1), .val (.int (0 : Int32)), .val (.int (1 : Int32)), .val (.int (own_cnt p0 p1 (0 : Int32) (c0 - (1 : Int32)))), .val (.int (own_cnt p2 p3 (0 : Int32) (c1 - (1 : Int32)))), .val (.int (own_cnt p0 p1 (own_nx (0 : Int32) (c0 - (1 : Int32))) (c0 - (1 : Int32)))), .val (.int (own_cnt p0 p1 (own_nx (own_nx (0 : Int32) (c0 - (1 : Int32))) (c0 - (1 : Int32))) (c0 - (1 : Int32)))), .val (.int (own_cnt p2 p3 (own_nx (0 : Int32) (c1 - (1 : Int32))) (c1 - (1 : Int32)))), .val (.int (own_cnt p0 p1 (own_nx (own_nx (own_nx (0 : Int32) (c0 - (1 : Int32))) (c0 - (1 : Int32))) (c0 - (1 : Int32))) (c0 - (1 : Int32)))), .val (.int (own_cnt p2 p3 (own_nx (own_nx (0 : Int32) (c1 - (1 : Int32))) (c1 - (1 : Int32))) (c1 - (1 : Int32))))] [(.int (f9 p0 p1 c0 (3 : Int32) )), (.int (own_cnt p0 p1 (own_nx (own_nx (own_nx (0 : Int32) (c0 - (1 : Int32))) (c0 - (1 : Int32))) (c0 - (1 : Int32))) (c0 - (1 : Int32))))]
  refine Gol.icmpNo X16 hx hby at_182 (pc' := 185) rfl (teq (own_a p0 p1 c0 (own_c0 hc0)).2.2.2).2 ?_
  refine Gol.iload X16 hx hby at_185 (pc' := 187) rfl rfl ?_
  refine Gol.iloadN X16 hx hby at_187 (pc' := 188) rfl rfl ?_
  refine Gol.iloadN X16 hx hby at_188 (pc' := 189) rfl rfl ?_
  refine Gol.iload X16 hx hby at_189 (pc' := 191) rfl rfl ?_
  refine Gol.iconst X16 hx hby at_191 (pc' := 192) rfl (z := (0 : Int32)) rfl ?_
  refine Gol.callS X16 hx hby hZ hown 1 [(.int p2), (.int p3), (.int c1), (.int (0 : Int32))] (hw _ (List.mem_of_getElem? (i := 59) rfl)) (hw _ (List.mem_of_getElem? (i := 60) rfl)) (hw _ (List.mem_of_getElem? (i := 61) rfl)) (hw _ (List.mem_of_getElem? (i := 62) rfl)) (by decide) (rm9 l Z a0 hw [] p2 p3 c1 (0 : Int32)  T12.heap n0 Zs ) (by decide) (by decide) eq16 (by rw [hml]; rfl) (rest := [(.int (own_cnt p2 p3 (0 : Int32) (c1 - (1 : Int32))))]) (Nat.le_of_eq rfl) (by decide) (by decide) (lenOf pd_6 rfl) rfl at_192 (pc' := 195) rfl ?_
  intro T17 v17 L17 X17 hQ17
  obtain ⟨rfl, Nq17, eq17⟩ := hQ17
  have N17 := Fr.app N16 Nq17
  show GolF _ _ _ _ _ _ _ T17 m 195 #[.val (.int p0), .val (.int p1), .val (.int p2), .val (.int p3), .val (.int p4), .val (.int c0), .val (.int c1), .val (.ref b1), .val (.int (0 : Int32)), .val (.int (1 : Int32)), .val (.int (own_cnt p0 p1 (0 : Int32) (c0 - (1 : Int32)))), .val (.int (own_cnt p2 p3 (0 : Int32) (c1 - (1 : Int32)))), .val (.int (own_cnt p0 p1 (own_nx (0 : Int32) (c0 - (1 : Int32))) (c0 - (1 : Int32)))), .val (.int (own_cnt p0 p1 (own_nx (own_nx (0 : Int32) (c0 - (1 : Int32))) (c0 - (1 : Int32))) (c0 - (1 : Int32)))), .val (.int (own_cnt p2 p3 (own_nx (0 : Int32) (c1 - (1 : Int32))) (c1 - (1 : Int32)))), .val (.int (own_cnt p0 p1 (own_nx (own_nx (own_nx (0 : Int32) (c0 - (1 : Int32))) (c0 - (1 : Int32))) (c0 - (1 : Int32))) (c0 - (1 : Int32)))), .val (.int (own_cnt p2 p3 (own_nx (own_nx (0 : Int32) (c1 - (1 : Int32))) (c1 - (1 : Int32))) (c1 - (1 : Int32))))] [(.int (f9 p2 p3 c1 (0 : Int32) )), (.int (own_cnt p2 p3 (0 : Int32) (c1 - (1 : Int32))))]
  refine Gol.icmpNo X17 hx hby at_195 (pc' := 198) rfl (teq (own_a p2 p3 c1 (own_c1 hc1)).1).2 ?_
  refine Gol.iload X17 hx hby at_198 (pc' := 200) rfl rfl ?_
  refine Gol.iloadN X17 hx hby at_200 (pc' := 201) rfl rfl ?_
  refine Gol.iloadN X17 hx hby at_201 (pc' := 202) rfl rfl ?_
  refine Gol.iload X17 hx hby at_202 (pc' := 204) rfl rfl ?_
  refine Gol.iconst X17 hx hby at_204 (pc' := 205) rfl (z := (1 : Int32)) rfl ?_
  refine Gol.callS X17 hx hby hZ hown 1 [(.int p2), (.int p3), (.int c1), (.int (1 : Int32))] (hw _ (List.mem_of_getElem? (i := 59) rfl)) (hw _ (List.mem_of_getElem? (i := 60) rfl)) (hw _ (List.mem_of_getElem? (i := 61) rfl)) (hw _ (List.mem_of_getElem? (i := 62) rfl)) (by decide) (rm9 l Z a0 hw [] p2 p3 c1 (1 : Int32)  T12.heap n0 Zs ) (by decide) (by decide) eq17 (by rw [hml]; rfl) (rest := [(.int (own_cnt p2 p3 (own_nx (0 : Int32) (c1 - (1 : Int32))) (c1 - (1 : Int32))))]) (Nat.le_of_eq rfl) (by decide) (by decide) (lenOf pd_6 rfl) rfl at_205 (pc' := 208) rfl ?_
  intro T18 v18 L18 X18 hQ18
  obtain ⟨rfl, Nq18, eq18⟩ := hQ18
  have N18 := Fr.app N17 Nq18
  show GolF _ _ _ _ _ _ _ T18 m 208 #[.val (.int p0), .val (.int p1), .val (.int p2), .val (.int p3), .val (.int p4), .val (.int c0), .val (.int c1), .val (.ref b1), .val (.int (0 : Int32)), .val (.int (1 : Int32)), .val (.int (own_cnt p0 p1 (0 : Int32) (c0 - (1 : Int32)))), .val (.int (own_cnt p2 p3 (0 : Int32) (c1 - (1 : Int32)))), .val (.int (own_cnt p0 p1 (own_nx (0 : Int32) (c0 - (1 : Int32))) (c0 - (1 : Int32)))), .val (.int (own_cnt p0 p1 (own_nx (own_nx (0 : Int32) (c0 - (1 : Int32))) (c0 - (1 : Int32))) (c0 - (1 : Int32)))), .val (.int (own_cnt p2 p3 (own_nx (0 : Int32) (c1 - (1 : Int32))) (c1 - (1 : Int32)))), .val (.int (own_cnt p0 p1 (own_nx (own_nx (own_nx (0 : Int32) (c0 - (1 : Int32))) (c0 - (1 : Int32))) (c0 - (1 : Int32))) (c0 - (1 : Int32)))), .val (.int (own_cnt p2 p3 (own_nx (own_nx (0 : Int32) (c1 - (1 : Int32))) (c1 - (1 : Int32))) (c1 - (1 : Int32))))] [(.int (f9 p2 p3 c1 (1 : Int32) )), (.int (own_cnt p2 p3 (own_nx (0 : Int32) (c1 - (1 : Int32))) (c1 - (1 : Int32))))]
  refine Gol.icmpNo X18 hx hby at_208 (pc' := 211) rfl (teq (own_a p2 p3 c1 (own_c1 hc1)).2.1).2 ?_
  refine Gol.iload X18 hx hby at_211 (pc' := 213) rfl rfl ?_
  refine Gol.iloadN X18 hx hby at_213 (pc' := 214) rfl rfl ?_
  refine Gol.iloadN X18 hx hby at_214 (pc' := 215) rfl rfl ?_
  refine Gol.iload X18 hx hby at_215 (pc' := 217) rfl rfl ?_
  refine Gol.iconst X18 hx hby at_217 (pc' := 218) rfl (z := (2 : Int32)) rfl ?_
  refine Gol.callS X18 hx hby hZ hown 1 [(.int p2), (.int p3), (.int c1), (.int (2 : Int32))] (hw _ (List.mem_of_getElem? (i := 59) rfl)) (hw _ (List.mem_of_getElem? (i := 60) rfl)) (hw _ (List.mem_of_getElem? (i := 61) rfl)) (hw _ (List.mem_of_getElem? (i := 62) rfl)) (by decide) (rm9 l Z a0 hw [] p2 p3 c1 (2 : Int32)  T12.heap n0 Zs ) (by decide) (by decide) eq18 (by rw [hml]; rfl) (rest := [(.int (own_cnt p2 p3 (own_nx (own_nx (0 : Int32) (c1 - (1 : Int32))) (c1 - (1 : Int32))) (c1 - (1 : Int32))))]) (Nat.le_of_eq rfl) (by decide) (by decide) (lenOf pd_6 rfl) rfl at_218 (pc' := 221) rfl ?_
  intro T19 v19 L19 X19 hQ19
  obtain ⟨rfl, Nq19, eq19⟩ := hQ19
  have N19 := Fr.app N18 Nq19
  show GolF _ _ _ _ _ _ _ T19 m 221 #[.val (.int p0), .val (.int p1), .val (.int p2), .val (.int p3), .val (.int p4), .val (.int c0), .val (.int c1), .val (.ref b1), .val (.int (0 : Int32)), .val (.int (1 : Int32)), .val (.int (own_cnt p0 p1 (0 : Int32) (c0 - (1 : Int32)))), .val (.int (own_cnt p2 p3 (0 : Int32) (c1 - (1 : Int32)))), .val (.int (own_cnt p0 p1 (own_nx (0 : Int32) (c0 - (1 : Int32))) (c0 - (1 : Int32)))), .val (.int (own_cnt p0 p1 (own_nx (own_nx (0 : Int32) (c0 - (1 : Int32))) (c0 - (1 : Int32))) (c0 - (1 : Int32)))), .val (.int (own_cnt p2 p3 (own_nx (0 : Int32) (c1 - (1 : Int32))) (c1 - (1 : Int32)))), .val (.int (own_cnt p0 p1 (own_nx (own_nx (own_nx (0 : Int32) (c0 - (1 : Int32))) (c0 - (1 : Int32))) (c0 - (1 : Int32))) (c0 - (1 : Int32)))), .val (.int (own_cnt p2 p3 (own_nx (own_nx (0 : Int32) (c1 - (1 : Int32))) (c1 - (1 : Int32))) (c1 - (1 : Int32))))] [(.int (f9 p2 p3 c1 (2 : Int32) )), (.int (own_cnt p2 p3 (own_nx (own_nx (0 : Int32) (c1 - (1 : Int32))) (c1 - (1 : Int32))) (c1 - (1 : Int32))))]
  refine Gol.icmpNo X19 hx hby at_221 (pc' := 224) rfl (teq (own_a p2 p3 c1 (own_c1 hc1)).2.2.1).2 ?_
  refine Gol.iconst X19 hx hby at_224 (pc' := 225) rfl (z := (1 : Int32)) rfl ?_
  refine Gol.goto X19 hx hby at_225 (pc' := 229) (by decide) ?_
  exact Gol.retN X19 hx hby (t := .boolean) Bd.returns (by simp) Bd.notSynchronized at_229 eq19 ⟨rfl, N19⟩ (by decide) (by decide)
set_option maxRecDepth 65536 in
set_option maxHeartbeats 40000000 in
theorem comes_1 {Post : Tables → Env → Array Value → State → Outcome → State → Prop} (hpost : ∀ tb e args s v u, (limb_1_1.after args s (.returned v) u = true ∧ limb_1_2.after args s (.returned v) u = true ∧ True) → FrameEnd s (.returned v) u (Jvm.fieldLocs frame_1_writes args s ++ Jvm.arrayLocs frame_1_arrays args s ++ Jvm.staticLocs frame_1_statics s) 40 1024 → Post tb e args s (.returned v) u) :
    ArmFor flags0 classFile x code maxLocals ret World_1 tables_1 room_1 Calls_1 rest_1 Pre_1 Post := by
  intro l hfl _ _ p e ha hc hk s m args below hf hA hF happ hP
  obtain ⟨hcalls, hrest, hpre⟩ := hP
  obtain ⟨-, -, -, hnamed, -, -, -, hat⟩ := (Spec.applies_iff hf).mp happ
  obtain ⟨hg, hn⟩ := and_e (Cond.before_iff.mp (show (Jvm.Cond.and given_1 narrow_1).before args s = true from hpre))
  obtain ⟨gc, gr0⟩ := and_e hg
  obtain ⟨gk0, gr1⟩ := and_e gr0
  obtain ⟨gk1, gr2⟩ := and_e gr1
  obtain ⟨gk2, gr3⟩ := and_e gr2
  obtain ⟨gk3, gr4⟩ := and_e gr3
  obtain ⟨w0, w1, w2, w3, w4, rfl⟩ : ∃ w0 w1 w2 w3 w4 : Value, args = #[w0, w1, w2, w3, w4] := by
    have hs : args.size = 5 := by simpa [Cond.value, given_1] using gc
    obtain ⟨L⟩ := args
    match L, hs with
    | [w0, w1, w2, w3, w4], _ => exact ⟨w0, w1, w2, w3, w4, rfl⟩
  have hw := fun d (hd : d ∈ tables_1) => atoms_spec (ws := Jvm.Cond.code x code maxLocals ret :: tables_1) hat d (List.mem_cons_of_mem _ hd)
  have hfit : Fit s := fun {y c} hc i hi => by
    obtain ⟨ha, rfl⟩ := Array.getElem?_eq_some_iff.mp hc
    have q := List.all_eq_true.mp ((Array.all_eq_true_iff_forall_mem.mp hF) _ (Array.getElem_mem ha)) i (List.mem_range.mpr hi)
    simpa [Array.getElem?_eq_getElem hi] using q
  obtain ⟨i0, ei0⟩ := is_v gk0
  obtain rfl : w0 = (.int i0) := Option.some.inj ei0
  obtain ⟨i1, ei1⟩ := is_v gk1
  obtain rfl : w1 = (.int i1) := Option.some.inj ei1
  obtain ⟨i2, ei2⟩ := is_v gk2
  obtain rfl : w2 = (.int i2) := Option.some.inj ei2
  obtain ⟨i3, ei3⟩ := is_v gk3
  obtain rfl : w3 = (.int i3) := Option.some.inj ei3
  obtain ⟨i4, ei4⟩ := is_v gr4
  obtain rfl : w4 = (.int i4) := Option.some.inj ei4
  obtain ⟨n, o, h1, h2, h3, _, L, rfl, ⟨rfl, N⟩, hq⟩ := rm0 l s _ hw tables_1 i0 i1 i2 i3 i4  s.heap s.heap.size (Nat.le_refl _)  p e ha hc hk s m _ below hf ((Spec.applies_iff_loose hf).mp happ).1 ⟨rfl, State.Warmed39.refl s, rfl⟩ trivial
  refine ⟨n, _, h1, h2, h3, hpost _ _ _ _ _ _ ⟨Cond.after_iff.mpr rfl, Cond.after_iff.mpr (eq_i res_at (Term.int_eval (1)) rfl), trivial⟩ ⟨hq.1, hq.2.1, (hq.2.2.sift fun y hy => Or.inr (N y hy)).mono (by decide) (by decide)⟩⟩
theorem main_1_1 : Claimed_1_1 := comes_1 fun _ _ _ _ _ _ h hF => ⟨h.1, hF⟩
theorem main_1_2 : Claimed_1_2 := comes_1 fun _ _ _ _ _ _ h hF => ⟨h.2.1, hF⟩
end Jvm.Pilot.@@N@@
namespace Jvm.Pilot.@@N@@
open Jvm Jvm.ClassFile Sem Op Lib Jvm.Free Jvm.Stand Jvm.Pilot.@@N@@.Jvm.D
/-! MADE BY PROGRAM (witnessworld.py) out of the Statement's table words and the real class files: 14 classes; the members and pool entries that the words name. The judged class is class 1, her method 2. -/
namespace start1
open Jvm.ClassFile
def u (s : String) : CpInfo := .utf8 (stringToUtf16 s)
/-- a pool by its gaps: so many unusable entries, then the entry; so many at the end -/
def gap : Nat → List CpInfo → List CpInfo
  | 0, r => r
  | n + 1, r => .unusable :: gap n r
def poolList (es : List (Nat × CpInfo)) (last : Nat) : List CpInfo := es.foldr (fun e r => gap e.1 (e.2 :: r)) (gap last [])
def pool (es : List (Nat × CpInfo)) (last : Nat) : Array CpInfo := ⟨poolList es last⟩
def fileOf (pool : Array CpInfo) (this : Nat) (attrs : Array Attribute := #[]) (ms : Array MethodInfo := #[]) (fl : Nat := 33) (sup : Nat := 0) (ifs : Array Nat := #[]) (fds : Array FieldInfo := #[]) : ClassFile where
  minorVersion := 0
  majorVersion := 65
  constantPool := pool
  accessFlags := fl
  thisClass := this
  superClass := sup
  interfaces := ifs
  fields := fds
  methods := ms
  attributes := attrs
def plain (name : String) (sup : Option ClassId) : Class where
  name := name
  kind := .ordinary
  loader := none
  accessFlags := 33
  super := sup
  interfaces := #[]
  cf := none
  fields := #[]
  methods := #[]
  instanceTypes := #[]
  staticTypes := #[]
  resolved := #[]
  callSites := []
  init := .initialized
  statics := none
  mirror := none

def pool0 : Array CpInfo := pool [(5, u "<init>"), (0, u "()V"), (1, .class_ 10), (1, u "java/lang/Object")] 113

def k0c0 : Code := { maxStack := 0, maxLocals := 1, code := object_method_1_code, exceptionTable := #[], attributes := #[] }
def k0m0 : Method := { name := "<init>", desc := "()V", sig := { parameters := [], returnType := none }, accessFlags := 1, code := some k0c0 }
/-- java/lang/Object -/
def k0 : Class := { plain "java/lang/Object" none with
  accessFlags := 33
  interfaces := #[]
  cf := some (fileOf pool0 8 #[] #[{ accessFlags := 1, nameIndex := 5, descriptorIndex := 6, attributes := #[] }] 33 0 #[] #[])
  fields := #[]
  methods := #[k0m0]
  instanceTypes := #[]
  staticTypes := #[]
  resolved := Array.replicate 124 none
  statics := none }

def pool1 : Array CpInfo := pool [(2, .class_ 4), (1, u "java/lang/Object"), (0, u "<init>"), (0, u "()V"), (0, .class_ 8), (0, u "com/example/quorumstone/quorumstone/check/Frames"), (0, .methodref 7 10), (0, .nameAndType 5 11), (0, u "([J)V"), (0, .methodref 7 13), (0, .nameAndType 14 15), (0, u "push"), (0, u "(JJIIII)I"), (0, .methodref 7 17), (0, .nameAndType 18 19), (0, u "nextCount"), (0, u "(I)I"), (0, .methodref 21 22), (0, .class_ 23), (0, .nameAndType 24 25), (0, u "com/example/quorumstone/quorumstone/check/FramesNextCountPinLaw"), (0, u "ref"), (0, u "(IIII)I"), (3, u "law"), (0, u "(IIIII)Z")] 2

def k1m0 : Method := { name := "<init>", desc := "()V", sig := { parameters := [], returnType := none }, accessFlags := 1, code := none }
def k1c1 : Code := { maxStack := 3, maxLocals := 4, code := method_2_code, exceptionTable := #[], attributes := #[] }
def k1m1 : Method := { name := "ref", desc := "(IIII)I", sig := { parameters := [.int, .int, .int, .int], returnType := some .int }, accessFlags := 10, code := some k1c1 }
def k1c2 : Code := { maxStack := 9, maxLocals := 17, code := code, exceptionTable := #[], attributes := #[] }
def k1m2 : Method := { name := "law", desc := "(IIIII)Z", sig := { parameters := [.int, .int, .int, .int, .int], returnType := some .boolean }, accessFlags := 9, code := some k1c2 }
/-- com/example/quorumstone/quorumstone/check/FramesNextCountPinLaw -/
def k1 : Class := { plain "com/example/quorumstone/quorumstone/check/FramesNextCountPinLaw" (some 0) with
  accessFlags := 49
  interfaces := #[]
  cf := some (fileOf pool1 21 #[] #[{ accessFlags := 1, nameIndex := 5, descriptorIndex := 6, attributes := #[] }, { accessFlags := 10, nameIndex := 24, descriptorIndex := 25, attributes := #[] }, { accessFlags := 9, nameIndex := 29, descriptorIndex := 30, attributes := #[] }] 49 2 #[] #[])
  fields := #[]
  methods := #[k1m0, k1m1, k1m2]
  instanceTypes := #[]
  staticTypes := #[]
  resolved := Array.replicate 33 none
  statics := none }

def pool2 : Array CpInfo := pool [(1, .methodref 2 3), (0, .class_ 4), (0, .nameAndType 5 6), (0, u "java/lang/Object"), (0, u "<init>"), (0, u "()V"), (0, .fieldref 8 9), (0, .class_ 10), (0, .nameAndType 11 12), (0, u "com/example/quorumstone/quorumstone/check/Frames"), (0, u "decided"), (0, u "[J"), (0, .fieldref 8 14), (0, .nameAndType 15 12), (0, u "taken"), (0, .fieldref 8 17), (0, .nameAndType 18 19), (0, u "branchClass"), (0, u "[I"), (0, .fieldref 8 21), (0, .nameAndType 22 19), (0, u "first"), (0, .fieldref 8 24), (0, .nameAndType 25 19), (0, u "step"), (0, .fieldref 8 27), (0, .nameAndType 28 19), (0, u "next"), (0, .fieldref 8 30), (0, .nameAndType 31 19), (0, u "last"), (0, .fieldref 8 33), (0, .nameAndType 34 12), (0, u "classServers"), (2, .long 18446744073709551615), (1, .fieldref 8 40), (0, .nameAndType 41 42), (0, u "allClasses"), (0, u "J"), (0, .fieldref 8 44), (0, .nameAndType 45 46), (0, u "depth"), (0, u "I"), (0, .methodref 48 49), (0, .class_ 50), (0, .nameAndType 51 52), (0, u "java/lang/Math"), (0, u "max"), (0, u "(II)I"), (0, .methodref 54 55), (0, .class_ 56), (0, .nameAndType 57 58), (0, u "java/util/Arrays"), (0, u "copyOf"), (0, u "([JI)[J"), (0, .methodref 54 60), (0, .nameAndType 57 61), (0, u "([II)[I"), (23, u "([J)V"), (5, u "push"), (0, u "(JJIIII)I"), (0, u "nextCount"), (0, u "(I)I")] 7

def k2c0 : Code := { maxStack := 5, maxLocals := 2, code := prog_5_method_1_code, exceptionTable := #[], attributes := #[] }
def k2m0 : Method := { name := "<init>", desc := "([J)V", sig := { parameters := [(.array .long)], returnType := none }, accessFlags := 0, code := some k2c0 }
def k2c1 : Code := { maxStack := 4, maxLocals := 10, code := prog_5_method_3_code, exceptionTable := #[], attributes := #[] }
def k2m1 : Method := { name := "push", desc := "(JJIIII)I", sig := { parameters := [.long, .long, .int, .int, .int, .int], returnType := some .int }, accessFlags := 0, code := some k2c1 }
def k2c2 : Code := { maxStack := 4, maxLocals := 3, code := prog_5_method_4_code, exceptionTable := #[], attributes := #[] }
def k2m2 : Method := { name := "nextCount", desc := "(I)I", sig := { parameters := [.int], returnType := some .int }, accessFlags := 0, code := some k2c2 }
/-- com/example/quorumstone/quorumstone/check/Frames -/
def k2 : Class := { plain "com/example/quorumstone/quorumstone/check/Frames" (some 0) with
  accessFlags := 48
  interfaces := #[]
  cf := some (fileOf pool2 8 #[] #[{ accessFlags := 0, nameIndex := 5, descriptorIndex := 85, attributes := #[] }, { accessFlags := 0, nameIndex := 91, descriptorIndex := 92, attributes := #[] }, { accessFlags := 0, nameIndex := 93, descriptorIndex := 94, attributes := #[] }] 48 2 #[] #[{ accessFlags := 18, nameIndex := 34, descriptorIndex := 12, attributes := #[] }, { accessFlags := 18, nameIndex := 41, descriptorIndex := 42, attributes := #[] }, { accessFlags := 2, nameIndex := 11, descriptorIndex := 12, attributes := #[] }, { accessFlags := 2, nameIndex := 15, descriptorIndex := 12, attributes := #[] }, { accessFlags := 2, nameIndex := 18, descriptorIndex := 19, attributes := #[] }, { accessFlags := 2, nameIndex := 22, descriptorIndex := 19, attributes := #[] }, { accessFlags := 2, nameIndex := 25, descriptorIndex := 19, attributes := #[] }, { accessFlags := 2, nameIndex := 28, descriptorIndex := 19, attributes := #[] }, { accessFlags := 2, nameIndex := 31, descriptorIndex := 19, attributes := #[] }, { accessFlags := 2, nameIndex := 45, descriptorIndex := 46, attributes := #[] }])
  fields := #[{ name := "classServers", type := (.array .long), accessFlags := 18, slot := 0, constantValue := 0 }, { name := "allClasses", type := .long, accessFlags := 18, slot := 1, constantValue := 0 }, { name := "decided", type := (.array .long), accessFlags := 2, slot := 2, constantValue := 0 }, { name := "taken", type := (.array .long), accessFlags := 2, slot := 3, constantValue := 0 }, { name := "branchClass", type := (.array .int), accessFlags := 2, slot := 4, constantValue := 0 }, { name := "first", type := (.array .int), accessFlags := 2, slot := 5, constantValue := 0 }, { name := "step", type := (.array .int), accessFlags := 2, slot := 6, constantValue := 0 }, { name := "next", type := (.array .int), accessFlags := 2, slot := 7, constantValue := 0 }, { name := "last", type := (.array .int), accessFlags := 2, slot := 8, constantValue := 0 }, { name := "depth", type := .int, accessFlags := 2, slot := 9, constantValue := 0 }]
  methods := #[k2m0, k2m1, k2m2]
  instanceTypes := #[(.array .long), .long, (.array .long), (.array .long), (.array .int), (.array .int), (.array .int), (.array .int), (.array .int), .int]
  staticTypes := #[]
  resolved := Array.replicate 102 none
  statics := none }

def pool3 : Array CpInfo := pool [(1, .class_ 2), (0, u "java/lang/Math"), (1, .class_ 6), (1, u "java/lang/Object"), (0, u "<init>"), (0, u "()V"), (89, .class_ 100), (1, u "java/lang/Math$RandomNumberGeneratorHolder"), (71, u "negativeZeroFloatBits"), (0, u "J"), (2, u "negativeZeroDoubleBits"), (21, u "max"), (2, u "min"), (43, u "$assertionsDisabled"), (0, u "Z"), (88, u "(II)I"), (2, u "twoToTheDoubleScaleDown"), (0, u "D"), (4, u "twoToTheDoubleScaleUp"), (9, u "E"), (3, u "PI"), (2, u "TAU"), (2, u "DEGREES_TO_RADIANS"), (0, u "RADIANS_TO_DEGREES")] 94

def k3m0 : Method := { name := "<init>", desc := "()V", sig := { parameters := [], returnType := none }, accessFlags := 2, code := none }
def k3c1 : Code := { maxStack := 2, maxLocals := 2, code := jdk_29_method_65_code, exceptionTable := #[], attributes := #[] }
def k3m1 : Method := { name := "max", desc := "(II)I", sig := { parameters := [.int, .int], returnType := some .int }, accessFlags := 9, code := some k3c1 }
def k3c2 : Code := { maxStack := 2, maxLocals := 2, code := jdk_29_method_69_code, exceptionTable := #[], attributes := #[] }
def k3m2 : Method := { name := "min", desc := "(II)I", sig := { parameters := [.int, .int], returnType := some .int }, accessFlags := 9, code := some k3c2 }
/-- java/lang/Math -/
def k3 : Class := { plain "java/lang/Math" (some 0) with
  accessFlags := 49
  interfaces := #[]
  cf := some (fileOf pool3 1 #[.nestMembers #[98]] #[{ accessFlags := 2, nameIndex := 7, descriptorIndex := 8, attributes := #[] }, { accessFlags := 9, nameIndex := 198, descriptorIndex := 335, attributes := #[] }, { accessFlags := 9, nameIndex := 201, descriptorIndex := 335, attributes := #[] }] 49 4 #[] #[{ accessFlags := 25, nameIndex := 354, descriptorIndex := 339, attributes := #[] }, { accessFlags := 25, nameIndex := 358, descriptorIndex := 339, attributes := #[] }, { accessFlags := 25, nameIndex := 361, descriptorIndex := 339, attributes := #[] }, { accessFlags := 26, nameIndex := 364, descriptorIndex := 339, attributes := #[] }, { accessFlags := 26, nameIndex := 365, descriptorIndex := 339, attributes := #[] }, { accessFlags := 26, nameIndex := 172, descriptorIndex := 173, attributes := #[] }, { accessFlags := 26, nameIndex := 176, descriptorIndex := 173, attributes := #[] }, { accessFlags := 8, nameIndex := 344, descriptorIndex := 339, attributes := #[] }, { accessFlags := 8, nameIndex := 338, descriptorIndex := 339, attributes := #[] }, { accessFlags := 4120, nameIndex := 245, descriptorIndex := 246, attributes := #[] }])
  fields := #[{ name := "E", type := .double, accessFlags := 25, slot := 0, constantValue := 0 }, { name := "PI", type := .double, accessFlags := 25, slot := 1, constantValue := 0 }, { name := "TAU", type := .double, accessFlags := 25, slot := 2, constantValue := 0 }, { name := "DEGREES_TO_RADIANS", type := .double, accessFlags := 26, slot := 3, constantValue := 0 }, { name := "RADIANS_TO_DEGREES", type := .double, accessFlags := 26, slot := 4, constantValue := 0 }, { name := "negativeZeroFloatBits", type := .long, accessFlags := 26, slot := 5, constantValue := 0 }, { name := "negativeZeroDoubleBits", type := .long, accessFlags := 26, slot := 6, constantValue := 0 }, { name := "twoToTheDoubleScaleUp", type := .double, accessFlags := 8, slot := 7, constantValue := 0 }, { name := "twoToTheDoubleScaleDown", type := .double, accessFlags := 8, slot := 8, constantValue := 0 }, { name := "$assertionsDisabled", type := .boolean, accessFlags := 4120, slot := 9, constantValue := 0 }]
  methods := #[k3m0, k3m1, k3m2]
  instanceTypes := #[]
  staticTypes := #[.double, .double, .double, .double, .double, .long, .long, .double, .double, .boolean]
  resolved := Array.replicate 460 none
  statics := none }

def pool4 : Array CpInfo := pool [(2, .class_ 4), (1, u "java/lang/Object"), (0, u "<init>"), (0, u "()V"), (7, .class_ 16), (1, u "java/util/Arrays"), (57, .class_ 76), (1, u "java/util/Arrays$NaturalOrder"), (36, .class_ 115), (1, u "java/util/Arrays$LegacyMergeSort"), (1, u "Z"), (32, .methodref 151 152), (0, .class_ 153), (0, .nameAndType 154 155), (0, u "java/lang/System"), (0, u "arraycopy"), (0, u "(Ljava/lang/Object;ILjava/lang/Object;II)V"), (146, u "copyOf"), (1, .methodref 305 306), (0, .class_ 307), (0, .nameAndType 308 309), (0, u "java/lang/Math"), (0, u "min"), (0, u "(II)I"), (65, .class_ 376), (0, u "java/util/Arrays$ArrayList"), (68, u "$assertionsDisabled"), (269, u "MIN_ARRAY_SORT_GRAN"), (0, u "I"), (2, u "INSERTIONSORT_THRESHOLD"), (151, u "([II)[I"), (0, u "([JI)[J"), (102, .class_ 976), (0, u "java/util/Arrays$ArrayItr")] 52

def k4m0 : Method := { name := "<init>", desc := "()V", sig := { parameters := [], returnType := none }, accessFlags := 2, code := none }
def k4c1 : Code := { maxStack := 6, maxLocals := 3, code := jdk_65_method_123_code, exceptionTable := #[], attributes := #[] }
def k4m1 : Method := { name := "copyOf", desc := "([II)[I", sig := { parameters := [(.array .int), .int], returnType := some (.array .int) }, accessFlags := 9, code := some k4c1 }
def k4c2 : Code := { maxStack := 6, maxLocals := 3, code := jdk_65_method_124_code, exceptionTable := #[], attributes := #[] }
def k4m2 : Method := { name := "copyOf", desc := "([JI)[J", sig := { parameters := [(.array .long), .int], returnType := some (.array .long) }, accessFlags := 9, code := some k4c2 }
/-- java/util/Arrays -/
def k4 : Class := { plain "java/util/Arrays" (some 0) with
  accessFlags := 49
  interfaces := #[]
  cf := some (fileOf pool4 14 #[.nestMembers #[975, 375, 113, 74]] #[{ accessFlags := 2, nameIndex := 5, descriptorIndex := 6, attributes := #[] }, { accessFlags := 9, nameIndex := 302, descriptorIndex := 871, attributes := #[] }, { accessFlags := 9, nameIndex := 302, descriptorIndex := 872, attributes := #[] }] 49 2 #[] #[{ accessFlags := 26, nameIndex := 715, descriptorIndex := 716, attributes := #[] }, { accessFlags := 26, nameIndex := 719, descriptorIndex := 716, attributes := #[] }, { accessFlags := 4120, nameIndex := 445, descriptorIndex := 117, attributes := #[] }])
  fields := #[{ name := "MIN_ARRAY_SORT_GRAN", type := .int, accessFlags := 26, slot := 0, constantValue := 0 }, { name := "INSERTIONSORT_THRESHOLD", type := .int, accessFlags := 26, slot := 1, constantValue := 0 }, { name := "$assertionsDisabled", type := .boolean, accessFlags := 4120, slot := 2, constantValue := 0 }]
  methods := #[k4m0, k4m1, k4m2]
  instanceTypes := #[]
  staticTypes := #[.int, .int, .boolean]
  resolved := Array.replicate 1029 none
  statics := none }

def pool5 : Array CpInfo := pool [(2, .class_ 4), (1, u "java/lang/Object"), (0, u "<init>"), (0, u "()V"), (1, .class_ 10), (1, u "java/lang/System"), (0, u "allowSecurityManager"), (0, u "I"), (16, u "cons"), (0, u "Ljava/io/Console;"), (77, .class_ 110), (1, u "java/lang/System$CallersHolder"), (43, u "initialErrStream"), (0, u "Ljava/io/PrintStream;"), (19, u "security"), (0, u "Ljava/lang/SecurityManager;"), (31, .class_ 209), (0, u "java/lang/System$1"), (7, u "props"), (0, u "Ljava/util/Properties;"), (2, u "lineSeparator"), (0, u "Ljava/lang/String;"), (96, .class_ 321), (1, u "java/lang/System$LoggerFinder"), (5, .class_ 328), (0, u "java/lang/System$Logger"), (67, u "err"), (2, u "out"), (91, u "notSupportedJnuEncoding"), (15, u "in"), (17, u "initialIn"), (0, u "Ljava/io/InputStream;"), (35, u "bootLayer"), (0, u "Ljava/lang/ModuleLayer;"), (99, .class_ 664), (0, u "java/lang/System$2"), (9, u "NEVER"), (2, u "MAYBE"), (49, u "arraycopy"), (0, u "(Ljava/lang/Object;ILjava/lang/Object;II)V"), (72, .class_ 802), (0, u "java/lang/System$Logger$Level")] 31

def k5m0 : Method := { name := "<init>", desc := "()V", sig := { parameters := [], returnType := none }, accessFlags := 2, code := none }
def k5m1 : Method := { name := "arraycopy", desc := "(Ljava/lang/Object;ILjava/lang/Object;II)V", sig := { parameters := [(.object "java/lang/Object"), .int, (.object "java/lang/Object"), .int, .int], returnType := none }, accessFlags := 265, code := none }
/-- java/lang/System -/
def k5 : Class := { plain "java/lang/System" (some 0) with
  accessFlags := 49
  interfaces := #[]
  cf := some (fileOf pool5 8 #[.nestMembers #[319, 327, 801, 108, 663, 208]] #[{ accessFlags := 2, nameIndex := 5, descriptorIndex := 6, attributes := #[] }, { accessFlags := 265, nameIndex := 727, descriptorIndex := 728, attributes := #[] }] 49 2 #[] #[{ accessFlags := 25, nameIndex := 507, descriptorIndex := 526, attributes := #[] }, { accessFlags := 25, nameIndex := 399, descriptorIndex := 155, attributes := #[] }, { accessFlags := 25, nameIndex := 396, descriptorIndex := 155, attributes := #[] }, { accessFlags := 10, nameIndex := 525, descriptorIndex := 526, attributes := #[] }, { accessFlags := 26, nameIndex := 674, descriptorIndex := 12, attributes := #[] }, { accessFlags := 26, nameIndex := 677, descriptorIndex := 12, attributes := #[] }, { accessFlags := 10, nameIndex := 11, descriptorIndex := 12, attributes := #[] }, { accessFlags := 74, nameIndex := 175, descriptorIndex := 176, attributes := #[] }, { accessFlags := 10, nameIndex := 491, descriptorIndex := 222, attributes := #[] }, { accessFlags := 74, nameIndex := 29, descriptorIndex := 30, attributes := #[] }, { accessFlags := 74, nameIndex := 154, descriptorIndex := 155, attributes := #[] }, { accessFlags := 10, nameIndex := 217, descriptorIndex := 218, attributes := #[] }, { accessFlags := 10, nameIndex := 221, descriptorIndex := 222, attributes := #[] }, { accessFlags := 8, nameIndex := 562, descriptorIndex := 563, attributes := #[] }])
  fields := #[{ name := "in", type := (.object "java/io/InputStream"), accessFlags := 25, slot := 0, constantValue := 0 }, { name := "out", type := (.object "java/io/PrintStream"), accessFlags := 25, slot := 1, constantValue := 0 }, { name := "err", type := (.object "java/io/PrintStream"), accessFlags := 25, slot := 2, constantValue := 0 }, { name := "initialIn", type := (.object "java/io/InputStream"), accessFlags := 10, slot := 3, constantValue := 0 }, { name := "NEVER", type := .int, accessFlags := 26, slot := 4, constantValue := 0 }, { name := "MAYBE", type := .int, accessFlags := 26, slot := 5, constantValue := 0 }, { name := "allowSecurityManager", type := .int, accessFlags := 10, slot := 6, constantValue := 0 }, { name := "security", type := (.object "java/lang/SecurityManager"), accessFlags := 74, slot := 7, constantValue := 0 }, { name := "notSupportedJnuEncoding", type := (.object "java/lang/String"), accessFlags := 10, slot := 8, constantValue := 0 }, { name := "cons", type := (.object "java/io/Console"), accessFlags := 74, slot := 9, constantValue := 0 }, { name := "initialErrStream", type := (.object "java/io/PrintStream"), accessFlags := 74, slot := 10, constantValue := 0 }, { name := "props", type := (.object "java/util/Properties"), accessFlags := 10, slot := 11, constantValue := 0 }, { name := "lineSeparator", type := (.object "java/lang/String"), accessFlags := 10, slot := 12, constantValue := 0 }, { name := "bootLayer", type := (.object "java/lang/ModuleLayer"), accessFlags := 8, slot := 13, constantValue := 0 }]
  methods := #[k5m0, k5m1]
  instanceTypes := #[]
  staticTypes := #[(.object "java/io/InputStream"), (.object "java/io/PrintStream"), (.object "java/io/PrintStream"), (.object "java/io/InputStream"), .int, .int, .int, (.object "java/lang/SecurityManager"), (.object "java/lang/String"), (.object "java/io/Console"), (.object "java/io/PrintStream"), (.object "java/util/Properties"), (.object "java/lang/String"), (.object "java/lang/ModuleLayer")]
  resolved := Array.replicate 834 none
  statics := none }

def pool6 : Array CpInfo := pool [(1, u "java/lang/Cloneable"), (0, .class_ 1), (0, u "java/lang/Object"), (0, .class_ 3)] 3

/-- java/lang/Cloneable -/
def k6 : Class := { plain "java/lang/Cloneable" (some 0) with
  accessFlags := 1537
  interfaces := #[]
  cf := some (fileOf pool6 2 #[] #[] 1537 4 #[] #[])
  fields := #[]
  methods := #[]
  instanceTypes := #[]
  staticTypes := #[]
  resolved := Array.replicate 8 none
  statics := none }

def pool7 : Array CpInfo := pool [(1, u "java/io/Serializable"), (0, .class_ 1), (0, u "java/lang/Object"), (0, .class_ 3)] 3

/-- java/io/Serializable -/
def k7 : Class := { plain "java/io/Serializable" (some 0) with
  accessFlags := 1537
  interfaces := #[]
  cf := some (fileOf pool7 2 #[] #[] 1537 4 #[] #[])
  fields := #[]
  methods := #[]
  instanceTypes := #[]
  staticTypes := #[]
  resolved := Array.replicate 8 none
  statics := none }

/-- the primitive byte -/
def k8 : Class := { plain "byte" none with kind := .primitive 'B', accessFlags := 0x411 }
/-- [B -/
def k9 : Class := { plain "[B" (some 0) with kind := .array 8 .byte, interfaces := #[6, 7], accessFlags := 1041 }

/-- the primitive int -/
def k10 : Class := { plain "int" none with kind := .primitive 'I', accessFlags := 0x411 }
/-- [I -/
def k11 : Class := { plain "[I" (some 0) with kind := .array 10 .int, interfaces := #[6, 7], accessFlags := 1041 }

/-- the primitive long -/
def k12 : Class := { plain "long" none with kind := .primitive 'J', accessFlags := 0x411 }
/-- [J -/
def k13 : Class := { plain "[J" (some 0) with kind := .array 12 .long, interfaces := #[6, 7], accessFlags := 1041 }

def heap : Heap := #[]
def classes : Array Class := #[k0, k1, k2, k3, k4, k5, k6, k7, k8, k9, k10, k11, k12, k13]
def interned : List (Array UInt16 × Addr) := []
def slotsUsed : Nat := 0
def theMethod : MethodId := ⟨1, 2⟩
def args0 : Array Value := #[.int 1, .int 2, .int 3, .int 4, .int 13]
def aboutOver (below : List Frame) : State where
  vm := { classes := classes, interned := interned.toArray }
  heap := heap
  slotsUsed := slotsUsed
  threads := #[{ frames := .invoking theMethod args0 :: below }]
def below0 : List Frame := [.native { method := ⟨0, 0⟩, args := #[] }]
def about1 : State := aboutOver below0
def p0 : Program := .bare "" "" ""
def e0 : Env := launch0.env 0 0 0
theorem w_frames : about1.frames = Frame.invoking theMethod args0 :: below0 := rfl
set_option maxRecDepth 65536 in
theorem w_args : argsFit about1.vm theMethod args0 = true := by decide +kernel
set_option maxRecDepth 65536 in
theorem w_heap : heapFits about1 = true := by decide +kernel
set_option maxRecDepth 65536 in
theorem w_runnable : about1.curStatus? = some .runnable := by decide +kernel
set_option maxRecDepth 65536 in
theorem w_alone : about1.alone = true := by decide +kernel
set_option maxRecDepth 65536 in
theorem w_named : about1.methodNamed? x = some theMethod := by decide +kernel
set_option maxRecDepth 65536 in
theorem w_hears : about1.hears theMethod below0 = true := by decide +kernel
set_option maxRecDepth 65536 in
theorem w_ripe : about1.ripe theMethod args0 below0 = true := by decide +kernel
theorem w_running : about1.status = .running := rfl
set_option maxRecDepth 65536 in
theorem w_room : about1.hasRoom e0.platform room_1 = true :=
  launch0.hasRoom_least _ room_1 (by decide +kernel) (by decide +kernel) (by decide +kernel) (by decide +kernel) (by decide +kernel) (by decide +kernel)
theorem allAtoms_all (ts : List Jvm.Cond) (a : Array Jvm.Value) (st : Jvm.State) : (allAtoms ts).before a st = ts.all (fun c => c.before a st) := by
  induction ts with
  | nil => rfl
  | cons c t ih =>
    show (Jvm.Cond.and c (allAtoms t)).before a st = _
    rw [Jvm.Cond.before_and, ih, List.all_cons]
def words1 : List Jvm.Cond := Jvm.Cond.code x code maxLocals ret :: tables_1
/-- a 'code' word, met by the world's own term for the bytes: nothing is compared byte by byte -/
theorem code_word {y : MethodName} {bytes : ByteArray} {mx : Nat} {rt : Option FieldType} {a : Array Value} {s : State} {m : MethodId} {meth : Method} {c : Code} (h1 : s.methodNamed? y = some m) (h2 : s.vm.method? m = some meth) (h3 : meth.code = some c) (h4 : c.code = bytes)
    (h5 : (c.maxLocals == mx && c.exceptionTable.isEmpty && decide (c.maxStack ≤ mostOperands) && decide (meth.sig.returnType = rt) && !meth.locks && decide (parseMethodDescriptor y.desc = some meth.sig)) = true) : (Jvm.Cond.code y bytes mx rt).before a s = true := by
  simp only [Bool.and_eq_true, beq_iff_eq, Bool.not_eq_true', decide_eq_true_eq] at h5
  obtain ⟨⟨⟨⟨⟨g1, g2⟩, g3⟩, g4⟩, g5⟩, g6⟩ := h5
  simp [Cond.before, Cond.holds, Cond.value, h1, h2, h3, h4, g1, g2, g3, g4, g5, g6]
def isCode : Jvm.Cond → Bool
  | .code _ _ _ _ => true
  | _ => false
theorem all_split {L : List Jvm.Cond} {P : Jvm.Cond → Bool} (h1 : L.all (fun c => isCode c || P c) = true) (h2 : ∀ c ∈ L.filter isCode, P c = true) : L.all P = true := by
  refine List.all_eq_true.mpr fun c hc => ?_
  have h := List.all_eq_true.mp h1 c hc
  rcases Bool.eq_false_or_eq_true (isCode c) with hi | hi
  · exact h2 c (List.mem_filter.mpr ⟨hc, hi⟩)
  · simpa [hi] using h
set_option maxRecDepth 65536 in
theorem w_c0 : (Jvm.Cond.code x code maxLocals ret).before args0 about1 = true := code_word (m := ⟨1, 2⟩) (meth := k1m2) (c := k1c2) (by decide +kernel) rfl rfl rfl (by decide +kernel)
set_option maxRecDepth 65536 in
theorem w_c1 : (Jvm.Cond.code ({ cls := "com/example/quorumstone/quorumstone/check/Frames", name := "<init>", desc := "([J)V" } : Jvm.MethodName) prog_5_method_1_code (2 : Nat) (Option.none : Option Jvm.ClassFile.FieldType)).before args0 about1 = true := code_word (m := ⟨2, 0⟩) (meth := k2m0) (c := k2c0) (by decide +kernel) rfl rfl rfl (by decide +kernel)
set_option maxRecDepth 65536 in
theorem w_c2 : (Jvm.Cond.code ({ cls := "java/lang/Object", name := "<init>", desc := "()V" } : Jvm.MethodName) object_method_1_code (1 : Nat) (Option.none : Option Jvm.ClassFile.FieldType)).before args0 about1 = true := code_word (m := ⟨0, 0⟩) (meth := k0m0) (c := k0c0) (by decide +kernel) rfl rfl rfl (by decide +kernel)
set_option maxRecDepth 65536 in
theorem w_c3 : (Jvm.Cond.code ({ cls := "com/example/quorumstone/quorumstone/check/Frames", name := "push", desc := "(JJIIII)I" } : Jvm.MethodName) prog_5_method_3_code (10 : Nat) (Option.some Jvm.ClassFile.FieldType.int)).before args0 about1 = true := code_word (m := ⟨2, 1⟩) (meth := k2m1) (c := k2c1) (by decide +kernel) rfl rfl rfl (by decide +kernel)
set_option maxRecDepth 65536 in
theorem w_c4 : (Jvm.Cond.code ({ cls := "java/lang/Math", name := "max", desc := "(II)I" } : Jvm.MethodName) jdk_29_method_65_code (2 : Nat) (Option.some Jvm.ClassFile.FieldType.int)).before args0 about1 = true := code_word (m := ⟨3, 1⟩) (meth := k3m1) (c := k3c1) (by decide +kernel) rfl rfl rfl (by decide +kernel)
set_option maxRecDepth 65536 in
theorem w_c5 : (Jvm.Cond.code ({ cls := "java/util/Arrays", name := "copyOf", desc := "([JI)[J" } : Jvm.MethodName) jdk_65_method_124_code (3 : Nat) (Option.some (Jvm.ClassFile.FieldType.array Jvm.ClassFile.FieldType.long))).before args0 about1 = true := code_word (m := ⟨4, 2⟩) (meth := k4m2) (c := k4c2) (by decide +kernel) rfl rfl rfl (by decide +kernel)
set_option maxRecDepth 65536 in
theorem w_c6 : (Jvm.Cond.code ({ cls := "java/lang/Math", name := "min", desc := "(II)I" } : Jvm.MethodName) jdk_29_method_69_code (2 : Nat) (Option.some Jvm.ClassFile.FieldType.int)).before args0 about1 = true := code_word (m := ⟨3, 2⟩) (meth := k3m2) (c := k3c2) (by decide +kernel) rfl rfl rfl (by decide +kernel)
set_option maxRecDepth 65536 in
theorem w_c7 : (Jvm.Cond.code ({ cls := "java/util/Arrays", name := "copyOf", desc := "([II)[I" } : Jvm.MethodName) jdk_65_method_123_code (3 : Nat) (Option.some (Jvm.ClassFile.FieldType.array Jvm.ClassFile.FieldType.int))).before args0 about1 = true := code_word (m := ⟨4, 1⟩) (meth := k4m1) (c := k4c1) (by decide +kernel) rfl rfl rfl (by decide +kernel)
set_option maxRecDepth 65536 in
theorem w_c8 : (Jvm.Cond.code ({ cls := "com/example/quorumstone/quorumstone/check/Frames", name := "nextCount", desc := "(I)I" } : Jvm.MethodName) prog_5_method_4_code (3 : Nat) (Option.some Jvm.ClassFile.FieldType.int)).before args0 about1 = true := code_word (m := ⟨2, 2⟩) (meth := k2m2) (c := k2c2) (by decide +kernel) rfl rfl rfl (by decide +kernel)
set_option maxRecDepth 65536 in
theorem w_c9 : (Jvm.Cond.code ({ cls := "com/example/quorumstone/quorumstone/check/FramesNextCountPinLaw", name := "ref", desc := "(IIII)I" } : Jvm.MethodName) method_2_code (4 : Nat) (Option.some Jvm.ClassFile.FieldType.int)).before args0 about1 = true := code_word (m := ⟨1, 1⟩) (meth := k1m1) (c := k1c1) (by decide +kernel) rfl rfl rfl (by decide +kernel)
def codes1 : List Jvm.Cond := [Jvm.Cond.code x code maxLocals ret, Jvm.Cond.code ({ cls := "com/example/quorumstone/quorumstone/check/Frames", name := "<init>", desc := "([J)V" } : Jvm.MethodName) prog_5_method_1_code (2 : Nat) (Option.none : Option Jvm.ClassFile.FieldType), Jvm.Cond.code ({ cls := "java/lang/Object", name := "<init>", desc := "()V" } : Jvm.MethodName) object_method_1_code (1 : Nat) (Option.none : Option Jvm.ClassFile.FieldType), Jvm.Cond.code ({ cls := "com/example/quorumstone/quorumstone/check/Frames", name := "push", desc := "(JJIIII)I" } : Jvm.MethodName) prog_5_method_3_code (10 : Nat) (Option.some Jvm.ClassFile.FieldType.int), Jvm.Cond.code ({ cls := "java/lang/Math", name := "max", desc := "(II)I" } : Jvm.MethodName) jdk_29_method_65_code (2 : Nat) (Option.some Jvm.ClassFile.FieldType.int), Jvm.Cond.code ({ cls := "java/util/Arrays", name := "copyOf", desc := "([JI)[J" } : Jvm.MethodName) jdk_65_method_124_code (3 : Nat) (Option.some (Jvm.ClassFile.FieldType.array Jvm.ClassFile.FieldType.long)), Jvm.Cond.code ({ cls := "java/lang/Math", name := "min", desc := "(II)I" } : Jvm.MethodName) jdk_29_method_69_code (2 : Nat) (Option.some Jvm.ClassFile.FieldType.int), Jvm.Cond.code ({ cls := "java/util/Arrays", name := "copyOf", desc := "([II)[I" } : Jvm.MethodName) jdk_65_method_123_code (3 : Nat) (Option.some (Jvm.ClassFile.FieldType.array Jvm.ClassFile.FieldType.int)), Jvm.Cond.code ({ cls := "com/example/quorumstone/quorumstone/check/Frames", name := "nextCount", desc := "(I)I" } : Jvm.MethodName) prog_5_method_4_code (3 : Nat) (Option.some Jvm.ClassFile.FieldType.int), Jvm.Cond.code ({ cls := "com/example/quorumstone/quorumstone/check/FramesNextCountPinLaw", name := "ref", desc := "(IIII)I" } : Jvm.MethodName) method_2_code (4 : Nat) (Option.some Jvm.ClassFile.FieldType.int)]
set_option maxRecDepth 65536 in
theorem codes_eq : words1.filter isCode = codes1 := rfl
theorem w_codes : ∀ c ∈ words1.filter isCode, c.before args0 about1 = true := by
  rw [codes_eq]
  intro c hc
  simp only [codes1, List.mem_cons, List.not_mem_nil, or_false] at hc
  rcases hc with rfl | rfl | rfl | rfl | rfl | rfl | rfl | rfl | rfl | rfl
  · exact w_c0
  · exact w_c1
  · exact w_c2
  · exact w_c3
  · exact w_c4
  · exact w_c5
  · exact w_c6
  · exact w_c7
  · exact w_c8
  · exact w_c9
set_option maxRecDepth 65536 in
theorem w_t1 : (words1.take 24).all (fun c => isCode c || c.before args0 about1) = true := by decide +kernel
set_option maxRecDepth 65536 in
theorem w_t2 : ((words1.drop 24).take 24).all (fun c => isCode c || c.before args0 about1) = true := by decide +kernel
set_option maxRecDepth 65536 in
theorem w_t3 : ((words1.drop 24).drop 24).all (fun c => isCode c || c.before args0 about1) = true := by decide +kernel
theorem w_tables : (allAtoms (Jvm.Cond.code x code maxLocals ret :: tables_1)).before args0 about1 = true := by
  rw [allAtoms_all]
  show words1.all (fun c => c.before args0 about1) = true
  refine all_split ?_ w_codes
  rw [← List.take_append_drop 24 words1, List.all_append, w_t1, ← List.take_append_drop 24 (words1.drop 24), List.all_append, w_t2, w_t3]
  rfl
set_option maxRecDepth 65536 in
theorem w_case : (Jvm.Cond.and given_1 narrow_1).before args0 about1 = true := by decide +kernel
theorem w_applies : (headSpec (Jvm.Cond.code x code maxLocals ret :: tables_1) room_1).applies x e0.platform about1 = true :=
  (Spec.applies_iff w_frames).mpr ⟨w_running, w_runnable, w_alone, w_named, w_hears, w_ripe, w_room, w_tables⟩
theorem atStart : AtStart classFile x code maxLocals ret World_1 tables_1 room_1 Calls_1 rest_1 Pre_1 launch0 p0 e0 about1 theMethod args0 below0 :=
  ⟨lists_1, trivial, launch0.admits_env _ _ _, launch0.least_env, fairChoices_fair.cas, fairChoices_fair.clock, w_frames, w_args, w_heap, w_applies, trivial, trivial, w_case⟩
end start1
theorem witness_1 : WitnessClaimed_1 := ⟨start1.p0, start1.e0, start1.about1, start1.theMethod, start1.args0, start1.below0, start1.atStart⟩
end Jvm.Pilot.@@N@@
