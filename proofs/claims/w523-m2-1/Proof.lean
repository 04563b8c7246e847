import JvmDerived
import JvmDerived.Pilot.@@N@@Statement
import JvmDerived.Pilot.@@N@@Code
set_option linter.unusedVariables false
set_option linter.unusedSimpArgs false
namespace Jvm.RoadKit
open Sem ClassFile Op Lib Jvm.Stand Jvm.Free Jvm.LawKit
section Own
variable {p : Program} {l : Launch} {e : Env} {R : Room} {s : State} {m : MethodId} {args : Array Value} {below : List Frame} {meth : Method} {c : Code} {T : State} {locs : List Loc} {cells slots : Nat} {Fe : Outcome → State → List Loc → Nat → Nat → Prop} {Qf : Option Value → Heap → List Loc → Prop} {kc ks : Nat} {code : ByteArray} {pc pc' : Nat} {Ls l' : Array Slot} {rest : List Value} {Z : State} {a0 : Array Value} {h : Heap}
/-- from the state S the call ends well: it returns, what is returned and the heap at the end meet Qf, and the frame is kept -/
def Gol (p : Program) (e : Env) (below : List Frame) (Fe : Outcome → State → List Loc → Nat → Nat → Prop) (Qf : Option Value → Heap → List Loc → Prop) (kc ks : Nat) (S : State) : Prop :=
  ∃ s₂ o, Steps p.tables e below S s₂ ∧ s₂.status = .running ∧ Ended s₂ below o ∧ ∃ v L, o = .returned v ∧ Qf v s₂.heap L ∧ Fe o s₂ L kc ks
theorem Gol.step {S S' : State} (st : ∀ t, Steps p.tables e below S' t → Steps p.tables e below S t) (k : Gol p e below Fe Qf kc ks S') : Gol p e below Fe Qf kc ks S := by
  obtain ⟨s₂, o, h, r⟩ := k
  exact ⟨s₂, o, st _ h, r⟩
theorem Gol.dia {S S' : State} (h1 : Gol p e below Fe Qf kc ks S' → Gol p e below Fe Qf kc ks S) (h2 : Gol p e below Fe Qf kc ks S') : Gol p e below Fe Qf kc ks S := h1 h2
theorem Gol.all {A : Type} {B : A → Prop} {S : State} {S' : A → State} (h2 : ∀ a, B a → Gol p e below Fe Qf kc ks (S' a)) (h1 : (∀ a, B a → Gol p e below Fe Qf kc ks (S' a)) → Gol p e below Fe Qf kc ks S) : Gol p e below Fe Qf kc ks S := h1 h2
/-- the run stands at pc -/
abbrev GolF (p : Program) (e : Env) (below : List Frame) (Fe : Outcome → State → List Loc → Nat → Nat → Prop) (Qf : Option Value → Heap → List Loc → Prop) (kc ks : Nat) (T : State) (m : MethodId) (pc : Nat) (Ls : Array Slot) (st : List Value) : Prop := Gol p e below Fe Qf kc ks (T.setTop (mkF m pc Ls st))
theorem Gol.fin (X : Stand p l e R s m args below meth c T locs cells slots) {v : Option Value} (hv : meth.sig.returnType = none → v = none) (hlk : meth.locks = false) {S : State} (eT : T.heap = h) (hq : Qf v h locs) (hc : cells ≤ kc) (hs : slots ≤ ks)
    (st : ∀ fs, (∀ (f : JFrame) (acts : List Action), f.method = m → f.locked = none → f.entered = [] → (doReturn e (T.setTop f) acts v).1 = T.setFrames fs) → Steps p.tables e below S (T.setFrames fs)) : Gol p e below (FrameEnd s) Qf kc ks S := by
  obtain ⟨fs, hr, hrun, hended, hW, hsame⟩ := X.leave (v := v) hv hlk
  refine ⟨_, _, st fs hr, hrun, hended, _, _, rfl, ?_, ⟨_, rfl⟩, hW, hsame.mono hc hs⟩
  show Qf v T.heap locs
  rw [eT]; exact hq
theorem Gol.finW {vm₁ : Vm} (X : Stand p l e R (s.setVm vm₁) m args below meth c T locs cells slots) {n : Nat} (hS : s.Since vm₁ n) (hn : n ≤ T.heap.size) {v : Option Value} (hv : meth.sig.returnType = none → v = none) (hlk : meth.locks = false) {S : State} (eT : T.heap = h) (hq : Qf v h locs) (hc : cells ≤ kc) (hs : slots ≤ ks)
    (st : ∀ fs, (∀ (f : JFrame) (acts : List Action), f.method = m → f.locked = none → f.entered = [] → (doReturn e (T.setTop f) acts v).1 = T.setFrames fs) → Steps p.tables e below S (T.setFrames fs)) : Gol p e below (ReturnedEndW s) Qf kc ks S := by
  obtain ⟨fs, hr, hrun, hended, h1, h2, h3, h4⟩ := X.leaveW hS hn (v := v) hv hlk
  refine ⟨_, _, st fs hr, hrun, hended, _, _, rfl, ?_, h1, h2, h3, h4.mono hc hs⟩
  show Qf v T.heap locs
  rw [eT]; exact hq
theorem Gol.aloadN (X : Stand p l e R s m args below meth c T locs cells slots) (hx : p.tables.exec = Jvm.exec) (hby : c.code = code) {k : Fin 4} {v : Value} (hd : decode code pc = .ok (.aload_n k, 1)) (hp : pc + 1 = pc') (hl : Ls[k.val]? = some (.val v)) (hv : v.isRef = true) (k : GolF p e below Fe Qf kc ks T m pc' Ls (v :: rest)) : GolF p e below Fe Qf kc ks T m pc Ls rest := by
  subst hp
  exact Gol.step (fun _ k => XS.aloadN X.here hx rfl (hb hby hd) hl hv k) k
theorem Gol.aload (X : Stand p l e R s m args below meth c T locs cells slots) (hx : p.tables.exec = Jvm.exec) (hby : c.code = code) {k : Nat} {v : Value} (hd : decode code pc = .ok (.aload k, 2)) (hp : pc + 2 = pc') (hl : Ls[k]? = some (.val v)) (hv : v.isRef = true) (k : GolF p e below Fe Qf kc ks T m pc' Ls (v :: rest)) : GolF p e below Fe Qf kc ks T m pc Ls rest := by
  subst hp
  exact Gol.step (fun _ k => XS.aload X.here hx rfl (hb hby hd) hl hv k) k
theorem Gol.iloadN (X : Stand p l e R s m args below meth c T locs cells slots) (hx : p.tables.exec = Jvm.exec) (hby : c.code = code) {k : Fin 4} {v : Int32} (hd : decode code pc = .ok (.iload_n k, 1)) (hp : pc + 1 = pc') (hl : Ls[k.val]? = some (.val (.int v))) (k : GolF p e below Fe Qf kc ks T m pc' Ls (.int v :: rest)) : GolF p e below Fe Qf kc ks T m pc Ls rest := by
  subst hp
  exact Gol.step (fun _ k => XS.iloadN X.here hx rfl (hb hby hd) hl k) k
theorem Gol.iload (X : Stand p l e R s m args below meth c T locs cells slots) (hx : p.tables.exec = Jvm.exec) (hby : c.code = code) {k : Nat} {v : Int32} (hd : decode code pc = .ok (.iload k, 2)) (hp : pc + 2 = pc') (hl : Ls[k]? = some (.val (.int v))) (k : GolF p e below Fe Qf kc ks T m pc' Ls (.int v :: rest)) : GolF p e below Fe Qf kc ks T m pc Ls rest := by
  subst hp
  exact Gol.step (fun _ k => XS.iload X.here hx rfl (hb hby hd) hl k) k
theorem Gol.istoreN (X : Stand p l e R s m args below meth c T locs cells slots) (hx : p.tables.exec = Jvm.exec) (hby : c.code = code) {k : Fin 4} {x : Int32} (hd : decode code pc = .ok (.istore_n k, 1)) (hp : pc + 1 = pc') (hl : storeLocals Ls k.val (.int x) = some l') (k : GolF p e below Fe Qf kc ks T m pc' l' rest) : GolF p e below Fe Qf kc ks T m pc Ls (.int x :: rest) := by
  subst hp
  exact Gol.step (fun _ k => XS.istoreN X.here hx rfl (hb hby hd) rfl hl k) k
theorem Gol.istore (X : Stand p l e R s m args below meth c T locs cells slots) (hx : p.tables.exec = Jvm.exec) (hby : c.code = code) {k : Nat} {x : Int32} (hd : decode code pc = .ok (.istore k, 2)) (hp : pc + 2 = pc') (hl : storeLocals Ls k (.int x) = some l') (k : GolF p e below Fe Qf kc ks T m pc' l' rest) : GolF p e below Fe Qf kc ks T m pc Ls (.int x :: rest) := by
  subst hp
  exact Gol.step (fun _ k => XS.istore X.here hx rfl (hb hby hd) rfl hl k) k
theorem Gol.lloadN (X : Stand p l e R s m args below meth c T locs cells slots) (hx : p.tables.exec = Jvm.exec) (hby : c.code = code) {k : Fin 4} {v : Int64} (hd : decode code pc = .ok (.lload_n k, 1)) (hp : pc + 1 = pc') (hl : Ls[k.val]? = some (.val (.long v))) (k : GolF p e below Fe Qf kc ks T m pc' Ls (.long v :: rest)) : GolF p e below Fe Qf kc ks T m pc Ls rest := by
  subst hp
  exact Gol.step (fun _ k => XT.lloadN X.here hx rfl (hb hby hd) hl k) k
theorem Gol.lload (X : Stand p l e R s m args below meth c T locs cells slots) (hx : p.tables.exec = Jvm.exec) (hby : c.code = code) {k : Nat} {v : Int64} (hd : decode code pc = .ok (.lload k, 2)) (hp : pc + 2 = pc') (hl : Ls[k]? = some (.val (.long v))) (k : GolF p e below Fe Qf kc ks T m pc' Ls (.long v :: rest)) : GolF p e below Fe Qf kc ks T m pc Ls rest := by
  subst hp
  exact Gol.step (fun _ k => XT.lload X.here hx rfl (hb hby hd) hl k) k
theorem Gol.lstoreN (X : Stand p l e R s m args below meth c T locs cells slots) (hx : p.tables.exec = Jvm.exec) (hby : c.code = code) {k : Fin 4} {x : Int64} (hd : decode code pc = .ok (.lstore_n k, 1)) (hp : pc + 1 = pc') (hl : storeLocals Ls k.val (.long x) = some l') (k : GolF p e below Fe Qf kc ks T m pc' l' rest) : GolF p e below Fe Qf kc ks T m pc Ls (.long x :: rest) := by
  subst hp
  exact Gol.step (fun _ k => XT.lstoreN X.here hx rfl (hb hby hd) rfl hl k) k
theorem Gol.lstore (X : Stand p l e R s m args below meth c T locs cells slots) (hx : p.tables.exec = Jvm.exec) (hby : c.code = code) {k : Nat} {x : Int64} (hd : decode code pc = .ok (.lstore k, 2)) (hp : pc + 2 = pc') (hl : storeLocals Ls k (.long x) = some l') (k : GolF p e below Fe Qf kc ks T m pc' l' rest) : GolF p e below Fe Qf kc ks T m pc Ls (.long x :: rest) := by
  subst hp
  exact Gol.step (fun _ k => XT.lstore X.here hx rfl (hb hby hd) rfl hl k) k
theorem Gol.astoreN (X : Stand p l e R s m args below meth c T locs cells slots) (hx : p.tables.exec = Jvm.exec) (hby : c.code = code) {k : Fin 4} {x : Value} (hd : decode code pc = .ok (.astore_n k, 1)) (hp : pc + 1 = pc') (hv : x.isRef = true) (hl : storeLocals Ls k.val x = some l') (k : GolF p e below Fe Qf kc ks T m pc' l' rest) : GolF p e below Fe Qf kc ks T m pc Ls (x :: rest) := by
  subst hp
  exact Gol.step (fun _ k => XS.astoreN X.here hx rfl (hb hby hd) rfl hv hl k) k
theorem Gol.astore (X : Stand p l e R s m args below meth c T locs cells slots) (hx : p.tables.exec = Jvm.exec) (hby : c.code = code) {k : Nat} {x : Value} (hd : decode code pc = .ok (.astore k, 2)) (hp : pc + 2 = pc') (hv : x.isRef = true) (hl : storeLocals Ls k x = some l') (k : GolF p e below Fe Qf kc ks T m pc' l' rest) : GolF p e below Fe Qf kc ks T m pc Ls (x :: rest) := by
  subst hp
  exact Gol.step (fun _ k => XS.astore X.here hx rfl (hb hby hd) rfl hv hl k) k
theorem Gol.iconst (X : Stand p l e R s m args below meth c T locs cells slots) (hx : p.tables.exec = Jvm.exec) (hby : c.code = code) {i : Int} {z : Int32} (hd : decode code pc = .ok (.iconst i, 1)) (hp : pc + 1 = pc') (hz : Int32.ofInt i = z) (k : GolF p e below Fe Qf kc ks T m pc' Ls (.int z :: rest)) : GolF p e below Fe Qf kc ks T m pc Ls rest := by
  subst hp hz
  exact Gol.step (fun _ k => XS.iconst X.here hx rfl (hb hby hd) k) k
theorem Gol.bipush (X : Stand p l e R s m args below meth c T locs cells slots) (hx : p.tables.exec = Jvm.exec) (hby : c.code = code) {i : Int} {z : Int32} (hd : decode code pc = .ok (.bipush i, 2)) (hp : pc + 2 = pc') (hz : (Int8.ofInt i).toInt32 = z) (k : GolF p e below Fe Qf kc ks T m pc' Ls (.int z :: rest)) : GolF p e below Fe Qf kc ks T m pc Ls rest := by
  subst hp hz
  exact Gol.step (fun _ k => XS.bipush X.here hx rfl (hb hby hd) k) k
theorem Gol.sipush (X : Stand p l e R s m args below meth c T locs cells slots) (hx : p.tables.exec = Jvm.exec) (hby : c.code = code) {i : Int} {z : Int32} (hd : decode code pc = .ok (.sipush i, 3)) (hp : pc + 3 = pc') (hz : (Int16.ofInt i).toInt32 = z) (k : GolF p e below Fe Qf kc ks T m pc' Ls (.int z :: rest)) : GolF p e below Fe Qf kc ks T m pc Ls rest := by
  subst hp hz
  exact Gol.step (fun _ k => XS.sipush X.here hx rfl (hb hby hd) k) k
theorem Gol.lconst (X : Stand p l e R s m args below meth c T locs cells slots) (hx : p.tables.exec = Jvm.exec) (hby : c.code = code) {i : Fin 2} {z : Int64} (hd : decode code pc = .ok (.lconst i, 1)) (hp : pc + 1 = pc') (hz : Int64.ofNat i = z) (k : GolF p e below Fe Qf kc ks T m pc' Ls (.long z :: rest)) : GolF p e below Fe Qf kc ks T m pc Ls rest := by
  subst hp hz
  exact Gol.step (fun _ k => XT.lconst X.here hx rfl (hb hby hd) k) k
theorem Gol.aconstNull (X : Stand p l e R s m args below meth c T locs cells slots) (hx : p.tables.exec = Jvm.exec) (hby : c.code = code) (hd : decode code pc = .ok (.aconst_null, 1)) (hp : pc + 1 = pc') (k : GolF p e below Fe Qf kc ks T m pc' Ls (.null :: rest)) : GolF p e below Fe Qf kc ks T m pc Ls rest := by
  subst hp
  exact Gol.step (fun _ k => XS.aconstNull X.here hx rfl (hb hby hd) k) k
theorem Gol.iadd (X : Stand p l e R s m args below meth c T locs cells slots) (hx : p.tables.exec = Jvm.exec) (hby : c.code = code) {x y z : Int32} (hd : decode code pc = .ok (.iadd, 1)) (hp : pc + 1 = pc') (hz : x + y = z) (k : GolF p e below Fe Qf kc ks T m pc' Ls (.int z :: rest)) : GolF p e below Fe Qf kc ks T m pc Ls (.int y :: .int x :: rest) := by
  subst hp hz
  exact Gol.step (fun _ k => XS.iadd X.here hx rfl (hb hby hd) rfl k) k
theorem Gol.ladd (X : Stand p l e R s m args below meth c T locs cells slots) (hx : p.tables.exec = Jvm.exec) (hby : c.code = code) {x y z : Int64} (hd : decode code pc = .ok (.ladd, 1)) (hp : pc + 1 = pc') (hz : x + y = z) (k : GolF p e below Fe Qf kc ks T m pc' Ls (.long z :: rest)) : GolF p e below Fe Qf kc ks T m pc Ls (.long y :: .long x :: rest) := by
  subst hp hz
  exact Gol.step (fun _ k => XT.ladd X.here hx rfl (hb hby hd) rfl k) k
theorem Gol.isub (X : Stand p l e R s m args below meth c T locs cells slots) (hx : p.tables.exec = Jvm.exec) (hby : c.code = code) {x y z : Int32} (hd : decode code pc = .ok (.isub, 1)) (hp : pc + 1 = pc') (hz : x - y = z) (k : GolF p e below Fe Qf kc ks T m pc' Ls (.int z :: rest)) : GolF p e below Fe Qf kc ks T m pc Ls (.int y :: .int x :: rest) := by
  subst hp hz
  exact Gol.step (fun _ k => XS.isub X.here hx rfl (hb hby hd) rfl k) k
theorem Gol.lsub (X : Stand p l e R s m args below meth c T locs cells slots) (hx : p.tables.exec = Jvm.exec) (hby : c.code = code) {x y z : Int64} (hd : decode code pc = .ok (.lsub, 1)) (hp : pc + 1 = pc') (hz : x - y = z) (k : GolF p e below Fe Qf kc ks T m pc' Ls (.long z :: rest)) : GolF p e below Fe Qf kc ks T m pc Ls (.long y :: .long x :: rest) := by
  subst hp hz
  exact Gol.step (fun _ k => XT.lsub X.here hx rfl (hb hby hd) rfl k) k
theorem Gol.imul (X : Stand p l e R s m args below meth c T locs cells slots) (hx : p.tables.exec = Jvm.exec) (hby : c.code = code) {x y z : Int32} (hd : decode code pc = .ok (.imul, 1)) (hp : pc + 1 = pc') (hz : x * y = z) (k : GolF p e below Fe Qf kc ks T m pc' Ls (.int z :: rest)) : GolF p e below Fe Qf kc ks T m pc Ls (.int y :: .int x :: rest) := by
  subst hp hz
  exact Gol.step (fun _ k => XS.imul X.here hx rfl (hb hby hd) rfl k) k
theorem Gol.lmul (X : Stand p l e R s m args below meth c T locs cells slots) (hx : p.tables.exec = Jvm.exec) (hby : c.code = code) {x y z : Int64} (hd : decode code pc = .ok (.lmul, 1)) (hp : pc + 1 = pc') (hz : x * y = z) (k : GolF p e below Fe Qf kc ks T m pc' Ls (.long z :: rest)) : GolF p e below Fe Qf kc ks T m pc Ls (.long y :: .long x :: rest) := by
  subst hp hz
  exact Gol.step (fun _ k => XT.lmul X.here hx rfl (hb hby hd) rfl k) k
theorem Gol.iand (X : Stand p l e R s m args below meth c T locs cells slots) (hx : p.tables.exec = Jvm.exec) (hby : c.code = code) {x y z : Int32} (hd : decode code pc = .ok (.iand, 1)) (hp : pc + 1 = pc') (hz : x &&& y = z) (k : GolF p e below Fe Qf kc ks T m pc' Ls (.int z :: rest)) : GolF p e below Fe Qf kc ks T m pc Ls (.int y :: .int x :: rest) := by
  subst hp hz
  exact Gol.step (fun _ k => XS.iand X.here hx rfl (hb hby hd) rfl k) k
theorem Gol.land (X : Stand p l e R s m args below meth c T locs cells slots) (hx : p.tables.exec = Jvm.exec) (hby : c.code = code) {x y z : Int64} (hd : decode code pc = .ok (.land, 1)) (hp : pc + 1 = pc') (hz : x &&& y = z) (k : GolF p e below Fe Qf kc ks T m pc' Ls (.long z :: rest)) : GolF p e below Fe Qf kc ks T m pc Ls (.long y :: .long x :: rest) := by
  subst hp hz
  exact Gol.step (fun _ k => XT.land X.here hx rfl (hb hby hd) rfl k) k
theorem Gol.ior (X : Stand p l e R s m args below meth c T locs cells slots) (hx : p.tables.exec = Jvm.exec) (hby : c.code = code) {x y z : Int32} (hd : decode code pc = .ok (.ior, 1)) (hp : pc + 1 = pc') (hz : x ||| y = z) (k : GolF p e below Fe Qf kc ks T m pc' Ls (.int z :: rest)) : GolF p e below Fe Qf kc ks T m pc Ls (.int y :: .int x :: rest) := by
  subst hp hz
  exact Gol.step (fun _ k => XT.ior X.here hx rfl (hb hby hd) rfl k) k
theorem Gol.lor (X : Stand p l e R s m args below meth c T locs cells slots) (hx : p.tables.exec = Jvm.exec) (hby : c.code = code) {x y z : Int64} (hd : decode code pc = .ok (.lor, 1)) (hp : pc + 1 = pc') (hz : x ||| y = z) (k : GolF p e below Fe Qf kc ks T m pc' Ls (.long z :: rest)) : GolF p e below Fe Qf kc ks T m pc Ls (.long y :: .long x :: rest) := by
  subst hp hz
  exact Gol.step (fun _ k => XT.lor X.here hx rfl (hb hby hd) rfl k) k
theorem Gol.ixor (X : Stand p l e R s m args below meth c T locs cells slots) (hx : p.tables.exec = Jvm.exec) (hby : c.code = code) {x y z : Int32} (hd : decode code pc = .ok (.ixor, 1)) (hp : pc + 1 = pc') (hz : x ^^^ y = z) (k : GolF p e below Fe Qf kc ks T m pc' Ls (.int z :: rest)) : GolF p e below Fe Qf kc ks T m pc Ls (.int y :: .int x :: rest) := by
  subst hp hz
  exact Gol.step (fun _ k => XT.ixor X.here hx rfl (hb hby hd) rfl k) k
theorem Gol.lxor (X : Stand p l e R s m args below meth c T locs cells slots) (hx : p.tables.exec = Jvm.exec) (hby : c.code = code) {x y z : Int64} (hd : decode code pc = .ok (.lxor, 1)) (hp : pc + 1 = pc') (hz : x ^^^ y = z) (k : GolF p e below Fe Qf kc ks T m pc' Ls (.long z :: rest)) : GolF p e below Fe Qf kc ks T m pc Ls (.long y :: .long x :: rest) := by
  subst hp hz
  exact Gol.step (fun _ k => XT.lxor X.here hx rfl (hb hby hd) rfl k) k
theorem Gol.ishl (X : Stand p l e R s m args below meth c T locs cells slots) (hx : p.tables.exec = Jvm.exec) (hby : c.code = code) {x y z : Int32} (hd : decode code pc = .ok (.ishl, 1)) (hp : pc + 1 = pc') (hz : x <<< (y &&& 31) = z) (k : GolF p e below Fe Qf kc ks T m pc' Ls (.int z :: rest)) : GolF p e below Fe Qf kc ks T m pc Ls (.int y :: .int x :: rest) := by
  subst hp hz
  exact Gol.step (fun _ k => XT.ishl X.here hx rfl (hb hby hd) rfl k) k
theorem Gol.ishr (X : Stand p l e R s m args below meth c T locs cells slots) (hx : p.tables.exec = Jvm.exec) (hby : c.code = code) {x y z : Int32} (hd : decode code pc = .ok (.ishr, 1)) (hp : pc + 1 = pc') (hz : x >>> (y &&& 31) = z) (k : GolF p e below Fe Qf kc ks T m pc' Ls (.int z :: rest)) : GolF p e below Fe Qf kc ks T m pc Ls (.int y :: .int x :: rest) := by
  subst hp hz
  exact Gol.step (fun _ k => XT.ishr X.here hx rfl (hb hby hd) rfl k) k
theorem Gol.iushr (X : Stand p l e R s m args below meth c T locs cells slots) (hx : p.tables.exec = Jvm.exec) (hby : c.code = code) {x y z : Int32} (hd : decode code pc = .ok (.iushr, 1)) (hp : pc + 1 = pc') (hz : XT.ushr x y = z) (k : GolF p e below Fe Qf kc ks T m pc' Ls (.int z :: rest)) : GolF p e below Fe Qf kc ks T m pc Ls (.int y :: .int x :: rest) := by
  subst hp hz
  exact Gol.step (fun _ k => XT.iushr X.here hx rfl (hb hby hd) rfl k) k
theorem Gol.lshl (X : Stand p l e R s m args below meth c T locs cells slots) (hx : p.tables.exec = Jvm.exec) (hby : c.code = code) {x z : Int64} {y : Int32} (hd : decode code pc = .ok (.lshl, 1)) (hp : pc + 1 = pc') (hz : x <<< (y.toInt64 &&& 63) = z) (k : GolF p e below Fe Qf kc ks T m pc' Ls (.long z :: rest)) : GolF p e below Fe Qf kc ks T m pc Ls (.int y :: .long x :: rest) := by
  subst hp hz
  exact Gol.step (fun _ k => XT.lshl X.here hx rfl (hb hby hd) rfl k) k
theorem Gol.lshr (X : Stand p l e R s m args below meth c T locs cells slots) (hx : p.tables.exec = Jvm.exec) (hby : c.code = code) {x z : Int64} {y : Int32} (hd : decode code pc = .ok (.lshr, 1)) (hp : pc + 1 = pc') (hz : x >>> (y.toInt64 &&& 63) = z) (k : GolF p e below Fe Qf kc ks T m pc' Ls (.long z :: rest)) : GolF p e below Fe Qf kc ks T m pc Ls (.int y :: .long x :: rest) := by
  subst hp hz
  exact Gol.step (fun _ k => XT.lshr X.here hx rfl (hb hby hd) rfl k) k
theorem Gol.lushr (X : Stand p l e R s m args below meth c T locs cells slots) (hx : p.tables.exec = Jvm.exec) (hby : c.code = code) {x z : Int64} {y : Int32} (hd : decode code pc = .ok (.lushr, 1)) (hp : pc + 1 = pc') (hz : XT.ushrL x y = z) (k : GolF p e below Fe Qf kc ks T m pc' Ls (.long z :: rest)) : GolF p e below Fe Qf kc ks T m pc Ls (.int y :: .long x :: rest) := by
  subst hp hz
  exact Gol.step (fun _ k => XT.lushr X.here hx rfl (hb hby hd) rfl k) k
theorem Gol.lcmp (X : Stand p l e R s m args below meth c T locs cells slots) (hx : p.tables.exec = Jvm.exec) (hby : c.code = code) {x y : Int64} (hd : decode code pc = .ok (.lcmp, 1)) (hp : pc + 1 = pc') (k : GolF p e below Fe Qf kc ks T m pc' Ls (.int (XT.cmpL x y) :: rest)) : GolF p e below Fe Qf kc ks T m pc Ls (.long y :: .long x :: rest) := by
  subst hp
  exact Gol.step (fun _ k => XT.lcmp X.here hx rfl (hb hby hd) rfl k) k
theorem Gol.ineg (X : Stand p l e R s m args below meth c T locs cells slots) (hx : p.tables.exec = Jvm.exec) (hby : c.code = code) {x : Int32} {z : Int32} (hd : decode code pc = .ok (.ineg, 1)) (hp : pc + 1 = pc') (hz : -x = z) (k : GolF p e below Fe Qf kc ks T m pc' Ls (.int z :: rest)) : GolF p e below Fe Qf kc ks T m pc Ls (.int x :: rest) := by
  subst hp hz
  exact Gol.step (fun _ k => XS.ineg X.here hx rfl (hb hby hd) rfl k) k
theorem Gol.lneg (X : Stand p l e R s m args below meth c T locs cells slots) (hx : p.tables.exec = Jvm.exec) (hby : c.code = code) {x : Int64} {z : Int64} (hd : decode code pc = .ok (.lneg, 1)) (hp : pc + 1 = pc') (hz : -x = z) (k : GolF p e below Fe Qf kc ks T m pc' Ls (.long z :: rest)) : GolF p e below Fe Qf kc ks T m pc Ls (.long x :: rest) := by
  subst hp hz
  exact Gol.step (fun _ k => XT.lneg X.here hx rfl (hb hby hd) rfl k) k
theorem Gol.i2l (X : Stand p l e R s m args below meth c T locs cells slots) (hx : p.tables.exec = Jvm.exec) (hby : c.code = code) {x : Int32} {z : Int64} (hd : decode code pc = .ok (.i2l, 1)) (hp : pc + 1 = pc') (hz : x.toInt64 = z) (k : GolF p e below Fe Qf kc ks T m pc' Ls (.long z :: rest)) : GolF p e below Fe Qf kc ks T m pc Ls (.int x :: rest) := by
  subst hp hz
  exact Gol.step (fun _ k => XT.i2l X.here hx rfl (hb hby hd) rfl k) k
theorem Gol.l2i (X : Stand p l e R s m args below meth c T locs cells slots) (hx : p.tables.exec = Jvm.exec) (hby : c.code = code) {x : Int64} {z : Int32} (hd : decode code pc = .ok (.l2i, 1)) (hp : pc + 1 = pc') (hz : x.toInt32 = z) (k : GolF p e below Fe Qf kc ks T m pc' Ls (.int z :: rest)) : GolF p e below Fe Qf kc ks T m pc Ls (.long x :: rest) := by
  subst hp hz
  exact Gol.step (fun _ k => XT.l2i X.here hx rfl (hb hby hd) rfl k) k
theorem Gol.i2b (X : Stand p l e R s m args below meth c T locs cells slots) (hx : p.tables.exec = Jvm.exec) (hby : c.code = code) {x : Int32} {z : Int32} (hd : decode code pc = .ok (.i2b, 1)) (hp : pc + 1 = pc') (hz : x.toInt8.toInt32 = z) (k : GolF p e below Fe Qf kc ks T m pc' Ls (.int z :: rest)) : GolF p e below Fe Qf kc ks T m pc Ls (.int x :: rest) := by
  subst hp hz
  exact Gol.step (fun _ k => XT.i2b X.here hx rfl (hb hby hd) rfl k) k
theorem Gol.i2s (X : Stand p l e R s m args below meth c T locs cells slots) (hx : p.tables.exec = Jvm.exec) (hby : c.code = code) {x : Int32} {z : Int32} (hd : decode code pc = .ok (.i2s, 1)) (hp : pc + 1 = pc') (hz : x.toInt16.toInt32 = z) (k : GolF p e below Fe Qf kc ks T m pc' Ls (.int z :: rest)) : GolF p e below Fe Qf kc ks T m pc Ls (.int x :: rest) := by
  subst hp hz
  exact Gol.step (fun _ k => XT.i2s X.here hx rfl (hb hby hd) rfl k) k
theorem Gol.i2c (X : Stand p l e R s m args below meth c T locs cells slots) (hx : p.tables.exec = Jvm.exec) (hby : c.code = code) {x : Int32} {z : Int32} (hd : decode code pc = .ok (.i2c, 1)) (hp : pc + 1 = pc') (hz : x.toUInt32.toUInt16.toUInt32.toInt32 = z) (k : GolF p e below Fe Qf kc ks T m pc' Ls (.int z :: rest)) : GolF p e below Fe Qf kc ks T m pc Ls (.int x :: rest) := by
  subst hp hz
  exact Gol.step (fun _ k => XT.i2c X.here hx rfl (hb hby hd) rfl k) k
theorem Gol.idiv (X : Stand p l e R s m args below meth c T locs cells slots) (hx : p.tables.exec = Jvm.exec) (hby : c.code = code) {x y : Int32} (hd : decode code pc = .ok (.idiv, 1)) (hp : pc + 1 = pc') (hy : y ≠ 0) (k : GolF p e below Fe Qf kc ks T m pc' Ls (.int (x / y) :: rest)) : GolF p e below Fe Qf kc ks T m pc Ls (.int y :: .int x :: rest) := by
  subst hp
  exact Gol.step (fun _ k => XS.idiv X.here hx rfl (hb hby hd) rfl hy k) k
theorem Gol.irem (X : Stand p l e R s m args below meth c T locs cells slots) (hx : p.tables.exec = Jvm.exec) (hby : c.code = code) {x y : Int32} (hd : decode code pc = .ok (.irem, 1)) (hp : pc + 1 = pc') (hy : y ≠ 0) (k : GolF p e below Fe Qf kc ks T m pc' Ls (.int (x % y) :: rest)) : GolF p e below Fe Qf kc ks T m pc Ls (.int y :: .int x :: rest) := by
  subst hp
  exact Gol.step (fun _ k => Jvm.RoadKit.iremM X hx rfl (hb hby hd) rfl hy k) k
theorem Gol.ldiv (X : Stand p l e R s m args below meth c T locs cells slots) (hx : p.tables.exec = Jvm.exec) (hby : c.code = code) {x y : Int64} (hd : decode code pc = .ok (.ldiv, 1)) (hp : pc + 1 = pc') (hy : y ≠ 0) (k : GolF p e below Fe Qf kc ks T m pc' Ls (.long (x / y) :: rest)) : GolF p e below Fe Qf kc ks T m pc Ls (.long y :: .long x :: rest) := by
  subst hp
  exact Gol.step (fun _ k => XT.ldiv X.here hx rfl (hb hby hd) rfl hy k) k
theorem Gol.lrem (X : Stand p l e R s m args below meth c T locs cells slots) (hx : p.tables.exec = Jvm.exec) (hby : c.code = code) {x y : Int64} (hd : decode code pc = .ok (.lrem, 1)) (hp : pc + 1 = pc') (hy : y ≠ 0) (k : GolF p e below Fe Qf kc ks T m pc' Ls (.long (x - (x / y) * y) :: rest)) : GolF p e below Fe Qf kc ks T m pc Ls (.long y :: .long x :: rest) := by
  subst hp
  exact Gol.step (fun _ k => XT.lrem X.here hx rfl (hb hby hd) rfl hy k) k
theorem Gol.iinc (X : Stand p l e R s m args below meth c T locs cells slots) (hx : p.tables.exec = Jvm.exec) (hby : c.code = code) {k : Nat} {cst : Int} {x : Int32} (hd : decode code pc = .ok (.iinc k cst, 3)) (hp : pc + 3 = pc') (hl : Ls[k]? = some (.val (.int x))) (hl' : storeLocals Ls k (.int (x + Int32.ofInt cst)) = some l') (k : GolF p e below Fe Qf kc ks T m pc' l' rest) : GolF p e below Fe Qf kc ks T m pc Ls rest := by
  subst hp
  exact Gol.step (fun _ k => XS.iinc X.here hx rfl (hb hby hd) hl hl' k) k
theorem Gol.dup (X : Stand p l e R s m args below meth c T locs cells slots) (hx : p.tables.exec = Jvm.exec) (hby : c.code = code) {x : Value} (hd : decode code pc = .ok (.dup, 1)) (hp : pc + 1 = pc') (hc : x.category = 1) (k : GolF p e below Fe Qf kc ks T m pc' Ls (x :: x :: rest)) : GolF p e below Fe Qf kc ks T m pc Ls (x :: rest) := by
  subst hp
  exact Gol.step (fun _ k => XS.dup X.here hx rfl (hb hby hd) rfl hc k) k
theorem Gol.pop (X : Stand p l e R s m args below meth c T locs cells slots) (hx : p.tables.exec = Jvm.exec) (hby : c.code = code) {x : Value} (hd : decode code pc = .ok (.pop, 1)) (hp : pc + 1 = pc') (hc : x.category = 1) (k : GolF p e below Fe Qf kc ks T m pc' Ls rest) : GolF p e below Fe Qf kc ks T m pc Ls (x :: rest) := by
  subst hp
  exact Gol.step (fun _ k => XT.pop X.here hx rfl (hb hby hd) rfl hc k) k
theorem Gol.dupX1 (X : Stand p l e R s m args below meth c T locs cells slots) (hx : p.tables.exec = Jvm.exec) (hby : c.code = code) {x y : Value} (hd : decode code pc = .ok (.dup_x1, 1)) (hp : pc + 1 = pc') (hc : x.category = 1) (hc' : y.category = 1) (k : GolF p e below Fe Qf kc ks T m pc' Ls (x :: y :: x :: rest)) : GolF p e below Fe Qf kc ks T m pc Ls (x :: y :: rest) := by
  subst hp
  exact Gol.step (fun _ k => XT.dupX1 X.here hx rfl (hb hby hd) rfl hc hc' k) k
theorem Gol.dup2 (X : Stand p l e R s m args below meth c T locs cells slots) (hx : p.tables.exec = Jvm.exec) (hby : c.code = code) {x y : Value} (hd : decode code pc = .ok (.dup2, 1)) (hp : pc + 1 = pc') (hc : x.category = 1) (hc' : y.category = 1) (k : GolF p e below Fe Qf kc ks T m pc' Ls (x :: y :: x :: y :: rest)) : GolF p e below Fe Qf kc ks T m pc Ls (x :: y :: rest) := by
  subst hp
  exact Gol.step (fun _ k => XT.dup2 X.here hx rfl (hb hby hd) rfl hc hc' k) k
theorem Gol.dup2L (X : Stand p l e R s m args below meth c T locs cells slots) (hx : p.tables.exec = Jvm.exec) (hby : c.code = code) {x : Int64} (hd : decode code pc = .ok (.dup2, 1)) (hp : pc + 1 = pc') (k : GolF p e below Fe Qf kc ks T m pc' Ls (.long x :: .long x :: rest)) : GolF p e below Fe Qf kc ks T m pc Ls (.long x :: rest) := by
  subst hp
  exact Gol.step (fun _ k => XT.dup2L X.here hx rfl (hb hby hd) rfl k) k
theorem Gol.goto (X : Stand p l e R s m args below meth c T locs cells slots) (hx : p.tables.exec = Jvm.exec) (hby : c.code = code) {o : Int} (hd : decode code pc = .ok (.goto o, 3)) (hp : (pc : Int) + o = (pc' : Int)) (k : GolF p e below Fe Qf kc ks T m pc' Ls rest) : GolF p e below Fe Qf kc ks T m pc Ls rest :=
  Gol.step (fun _ k => XS.goto X.here hx rfl (pc0 := pc) rfl (hb hby hd) (by rw [hp]; exact Int.natCast_nonneg _) (by rw [hp]; rfl) k) k
theorem Gol.ifYes (X : Stand p l e R s m args below meth c T locs cells slots) (hx : p.tables.exec = Jvm.exec) (hby : c.code = code) {o : Int} {cd : ClassFile.Cond} {x : Int32} (hd : decode code pc = .ok (.ifCond cd o, 3)) (hp : (pc : Int) + o = (pc' : Int)) (hc : ifCond.holds cd x = true) (k : GolF p e below Fe Qf kc ks T m pc' Ls rest) : GolF p e below Fe Qf kc ks T m pc Ls (.int x :: rest) :=
  Gol.step (fun _ k => XS.ifYes X.here hx rfl (pc0 := pc) rfl (hb hby hd) rfl hc (by rw [hp]; exact Int.natCast_nonneg _) (by rw [hp]; rfl) k) k
theorem Gol.icmpYes (X : Stand p l e R s m args below meth c T locs cells slots) (hx : p.tables.exec = Jvm.exec) (hby : c.code = code) {o : Int} {cd : ClassFile.Cond} {x y : Int32} (hd : decode code pc = .ok (.if_icmp cd o, 3)) (hp : (pc : Int) + o = (pc' : Int)) (hc : if_icmp.holds cd x y = true) (k : GolF p e below Fe Qf kc ks T m pc' Ls rest) : GolF p e below Fe Qf kc ks T m pc Ls (.int y :: .int x :: rest) :=
  Gol.step (fun _ k => XS.icmpYes X.here hx rfl (pc0 := pc) rfl (hb hby hd) rfl hc (by rw [hp]; exact Int.natCast_nonneg _) (by rw [hp]; rfl) k) k
theorem Gol.ifNo (X : Stand p l e R s m args below meth c T locs cells slots) (hx : p.tables.exec = Jvm.exec) (hby : c.code = code) {o : Int} {cd : ClassFile.Cond} {x : Int32} (hd : decode code pc = .ok (.ifCond cd o, 3)) (hp : pc + 3 = pc') (hc : ifCond.holds cd x = false) (k : GolF p e below Fe Qf kc ks T m pc' Ls rest) : GolF p e below Fe Qf kc ks T m pc Ls (.int x :: rest) := by
  subst hp
  exact Gol.step (fun _ k => XS.ifNo X.here hx rfl (hb hby hd) rfl hc k) k
theorem Gol.icmpNo (X : Stand p l e R s m args below meth c T locs cells slots) (hx : p.tables.exec = Jvm.exec) (hby : c.code = code) {o : Int} {cd : ClassFile.Cond} {x y : Int32} (hd : decode code pc = .ok (.if_icmp cd o, 3)) (hp : pc + 3 = pc') (hc : if_icmp.holds cd x y = false) (k : GolF p e below Fe Qf kc ks T m pc' Ls rest) : GolF p e below Fe Qf kc ks T m pc Ls (.int y :: .int x :: rest) := by
  subst hp
  exact Gol.step (fun _ k => XS.icmpNo X.here hx rfl (hb hby hd) rfl hc k) k
theorem Gol.ifnullYes (X : Stand p l e R s m args below meth c T locs cells slots) (hx : p.tables.exec = Jvm.exec) (hby : c.code = code) {o : Int} (hd : decode code pc = .ok (.ifnull o, 3)) (hp : (pc : Int) + o = (pc' : Int)) (k : GolF p e below Fe Qf kc ks T m pc' Ls rest) : GolF p e below Fe Qf kc ks T m pc Ls (.null :: rest) :=
  Gol.step (fun _ k => XS.ifnullYes X.here hx rfl (pc0 := pc) rfl (hb hby hd) rfl (by rw [hp]; exact Int.natCast_nonneg _) (by rw [hp]; rfl) k) k
theorem Gol.ifnullNo (X : Stand p l e R s m args below meth c T locs cells slots) (hx : p.tables.exec = Jvm.exec) (hby : c.code = code) {o : Int} {b : Addr} (hd : decode code pc = .ok (.ifnull o, 3)) (hp : pc + 3 = pc') (k : GolF p e below Fe Qf kc ks T m pc' Ls rest) : GolF p e below Fe Qf kc ks T m pc Ls (.ref b :: rest) := by
  subst hp
  exact Gol.step (fun _ k => XS.ifnullNo X.here hx rfl (hb hby hd) rfl k) k
theorem Gol.ifnonnullYes (X : Stand p l e R s m args below meth c T locs cells slots) (hx : p.tables.exec = Jvm.exec) (hby : c.code = code) {o : Int} {b : Addr} (hd : decode code pc = .ok (.ifnonnull o, 3)) (hp : (pc : Int) + o = (pc' : Int)) (k : GolF p e below Fe Qf kc ks T m pc' Ls rest) : GolF p e below Fe Qf kc ks T m pc Ls (.ref b :: rest) :=
  Gol.step (fun _ k => XT.ifnonnullYes X.here hx rfl (pc0 := pc) rfl (hb hby hd) rfl (by rw [hp]; exact Int.natCast_nonneg _) (by rw [hp]; rfl) k) k
theorem Gol.ifnonnullNo (X : Stand p l e R s m args below meth c T locs cells slots) (hx : p.tables.exec = Jvm.exec) (hby : c.code = code) {o : Int} (hd : decode code pc = .ok (.ifnonnull o, 3)) (hp : pc + 3 = pc') (k : GolF p e below Fe Qf kc ks T m pc' Ls rest) : GolF p e below Fe Qf kc ks T m pc Ls (.null :: rest) := by
  subst hp
  exact Gol.step (fun _ k => XT.ifnonnullNo X.here hx rfl (hb hby hd) rfl k) k
theorem Gol.acmp (X : Stand p l e R s m args below meth c T locs cells slots) (hx : p.tables.exec = Jvm.exec) (hby : c.code = code) {cd : ACond} {o : Int} {x y : Value} (same : Bool) (hd : decode code pc = .ok (.if_acmp cd o, 3)) (h1 : x.isRef = true) (h2 : y.isRef = true) (hq : decide (x = y) = same) (ho : 0 ≤ (pc : Int) + o) (hp : pc' = if acV cd same = true then ((pc : Int) + o).toNat else pc + 3) (k : GolF p e below Fe Qf kc ks T m pc' Ls rest) : GolF p e below Fe Qf kc ks T m pc Ls (y :: x :: rest) :=
  Gol.step (fun _ k => Jvm.RoadKit.acmp (g := mkF m pc Ls (y :: x :: rest)) X hx rfl h1 h2 (pc0 := pc) (pc' := pc') rfl (hb hby hd) rfl hq ho hp k) k
theorem Gol.ldcInt (X : Stand p l e R s m args below meth c T locs cells slots) (hx : p.tables.exec = Jvm.exec) (hby : c.code = code) (hZ : Z.Warmed39 s.vm) {own : String} (hown : s.vm.findClass own = some m.cls) {index : Nat} {v : Int32} (hd : decode code pc = .ok (.ldc index, 2)) (hp : pc + 2 = pc') (w : (Cond.constant own index v).before a0 Z = true) (k : GolF p e below Fe Qf kc ks T m pc' Ls (.int v :: rest)) : GolF p e below Fe Qf kc ks T m pc Ls rest := by
  subst hp
  exact Gol.step (fun _ k => X.ldcInt hx hown (mvT hZ w) (g := mkF m pc Ls rest) rfl (hb hby hd) _ k) k
theorem Gol.ldcwInt (X : Stand p l e R s m args below meth c T locs cells slots) (hx : p.tables.exec = Jvm.exec) (hby : c.code = code) (hZ : Z.Warmed39 s.vm) {own : String} (hown : s.vm.findClass own = some m.cls) {index : Nat} {v : Int32} (hd : decode code pc = .ok (.ldc_w index, 3)) (hp : pc + 3 = pc') (w : (Cond.constant own index v).before a0 Z = true) (k : GolF p e below Fe Qf kc ks T m pc' Ls (.int v :: rest)) : GolF p e below Fe Qf kc ks T m pc Ls rest := by
  subst hp
  exact Gol.step (fun _ k => X.ldcwInt hx hown (mvT hZ w) (g := mkF m pc Ls rest) rfl (hb hby hd) _ k) k
theorem Gol.ldc2Long (X : Stand p l e R s m args below meth c T locs cells slots) (hx : p.tables.exec = Jvm.exec) (hby : c.code = code) (hZ : Z.Warmed39 s.vm) {own : String} (hown : s.vm.findClass own = some m.cls) {index : Nat} {v : Int64} (hd : decode code pc = .ok (.ldc2_w index, 3)) (hp : pc + 3 = pc') (w : (Cond.constantLong own index v).before a0 Z = true) (k : GolF p e below Fe Qf kc ks T m pc' Ls (.long v :: rest)) : GolF p e below Fe Qf kc ks T m pc Ls rest := by
  subst hp
  exact Gol.step (fun _ k => X.ldc2Long hx hown (mvT hZ w) (g := mkF m pc Ls rest) rfl (hb hby hd) _ k) k
theorem Gol.iaload (X : Stand p l e R s m args below meth c T locs cells slots) (hx : p.tables.exec = Jvm.exec) (hby : c.code = code) (hZ : Z.Warmed39 s.vm) (eT : T.heap = h) {a : Addr} {ka : ClassId} {z j : Int32} {vs : List Value} {dv : Value} {v : Int32} (A : Arv Z h a ka .int z vs dv) (hd : decode code pc = .ok (.iaload, 1)) (hp : pc + 1 = pc') (hj : ¬ j < 0 ∧ j < z) (hv : vs.getD j.toNatClampNeg dv = .int v) (k : GolF p e below Fe Qf kc ks T m pc' Ls (.int v :: rest)) : GolF p e below Fe Qf kc ks T m pc Ls (.int j :: .ref a :: rest) := by
  subst hp
  obtain ⟨cl, Ar, -, S, -, Hs, -⟩ := A
  have hin := inb_of S hj
  exact Gol.step (fun _ k => X.iaload hx (by rw [eT]; exact Ar.1) (State.isArrayOf_alike hZ.alike Ar.2.1) Ar.2.2 hin (Has.at Hs hin hv) (g := mkF m pc Ls (.int j :: .ref a :: rest)) rfl rfl (hb hby hd) _ k) k
theorem Gol.baload (X : Stand p l e R s m args below meth c T locs cells slots) (hx : p.tables.exec = Jvm.exec) (hby : c.code = code) (hZ : Z.Warmed39 s.vm) (eT : T.heap = h) {a : Addr} {ka : ClassId} {z j : Int32} {vs : List Value} {dv : Value} {v : Int32} (A : Arv Z h a ka .byte z vs dv) (hd : decode code pc = .ok (.baload, 1)) (hp : pc + 1 = pc') (hj : ¬ j < 0 ∧ j < z) (hv : vs.getD j.toNatClampNeg dv = .int v) (k : GolF p e below Fe Qf kc ks T m pc' Ls (.int v :: rest)) : GolF p e below Fe Qf kc ks T m pc Ls (.int j :: .ref a :: rest) := by
  subst hp
  obtain ⟨cl, Ar, -, S, -, Hs, -⟩ := A
  have hin := inb_of S hj
  exact Gol.step (fun _ k => X.baloadBytes hx (by rw [eT]; exact Ar.1) (State.isArrayOf_alike hZ.alike Ar.2.1) Ar.2.2 hin (Has.at Hs hin hv) (g := mkF m pc Ls (.int j :: .ref a :: rest)) rfl rfl (hb hby hd) _ k) k
theorem Gol.caload (X : Stand p l e R s m args below meth c T locs cells slots) (hx : p.tables.exec = Jvm.exec) (hby : c.code = code) (hZ : Z.Warmed39 s.vm) (eT : T.heap = h) {a : Addr} {ka : ClassId} {z j : Int32} {vs : List Value} {dv : Value} {v : Int32} (A : Arv Z h a ka .char z vs dv) (hd : decode code pc = .ok (.caload, 1)) (hp : pc + 1 = pc') (hj : ¬ j < 0 ∧ j < z) (hv : vs.getD j.toNatClampNeg dv = .int v) (k : GolF p e below Fe Qf kc ks T m pc' Ls (.int v :: rest)) : GolF p e below Fe Qf kc ks T m pc Ls (.int j :: .ref a :: rest) := by
  subst hp
  obtain ⟨cl, Ar, -, S, -, Hs, -⟩ := A
  have hin := inb_of S hj
  exact Gol.step (fun _ k => X.caload hx (by rw [eT]; exact Ar.1) (State.isArrayOf_alike hZ.alike Ar.2.1) Ar.2.2 hin (Has.at Hs hin hv) (g := mkF m pc Ls (.int j :: .ref a :: rest)) rfl rfl (hb hby hd) _ k) k
theorem Gol.laload (X : Stand p l e R s m args below meth c T locs cells slots) (hx : p.tables.exec = Jvm.exec) (hby : c.code = code) (hZ : Z.Warmed39 s.vm) (eT : T.heap = h) {a : Addr} {ka : ClassId} {z j : Int32} {vs : List Value} {dv : Value} {v : Int64} (A : Arv Z h a ka .long z vs dv) (hd : decode code pc = .ok (.laload, 1)) (hp : pc + 1 = pc') (hj : ¬ j < 0 ∧ j < z) (hv : vs.getD j.toNatClampNeg dv = .long v) (k : GolF p e below Fe Qf kc ks T m pc' Ls (.long v :: rest)) : GolF p e below Fe Qf kc ks T m pc Ls (.int j :: .ref a :: rest) := by
  subst hp
  obtain ⟨cl, Ar, -, S, -, Hs, -⟩ := A
  have hin := inb_of S hj
  exact Gol.step (fun _ k => X.laload hx (by rw [eT]; exact Ar.1) (State.isArrayOf_alike hZ.alike Ar.2.1) Ar.2.2 hin (Has.at Hs hin hv) (g := mkF m pc Ls (.int j :: .ref a :: rest)) rfl rfl (hb hby hd) _ k) k
theorem Gol.aaload (X : Stand p l e R s m args below meth c T locs cells slots) (hx : p.tables.exec = Jvm.exec) (hby : c.code = code) (hZ : Z.Warmed39 s.vm) (eT : T.heap = h) {a : Addr} {ka : ClassId} {ty : FieldType} {z j : Int32} {vs : List Value} {dv v : Value} (A : Arv Z h a ka ty z vs dv) (hd : decode code pc = .ok (.aaload, 1)) (hp : pc + 1 = pc') (ht : ty.isReference = true) (hj : ¬ j < 0 ∧ j < z) (hv : vs.getD j.toNatClampNeg dv = v) (k : GolF p e below Fe Qf kc ks T m pc' Ls (v :: rest)) : GolF p e below Fe Qf kc ks T m pc Ls (.int j :: .ref a :: rest) := by
  subst hp
  obtain ⟨cl, Ar, -, S, -, Hs, -⟩ := A
  have hin := inb_of S hj
  exact Gol.step (fun _ k => X.aaload hx (by rw [eT]; exact Ar.1) (State.isArrayOf_alike hZ.alike Ar.2.1) ht Ar.2.2 hin (Has.at Hs hin hv) (g := mkF m pc Ls (.int j :: .ref a :: rest)) rfl rfl (hb hby hd) _ k) k
theorem Gol.alen (X : Stand p l e R s m args below meth c T locs cells slots) (hx : p.tables.exec = Jvm.exec) (hby : c.code = code) (hZ : Z.Warmed39 s.vm) (eT : T.heap = h) {a : Addr} {ka : ClassId} {ty : FieldType} {z : Int32} {vs : List Value} {dv : Value} (A : Arv Z h a ka ty z vs dv) (hd : decode code pc = .ok (.arraylength, 1)) (hp : pc + 1 = pc') (k : GolF p e below Fe Qf kc ks T m pc' Ls (.int z :: rest)) : GolF p e below Fe Qf kc ks T m pc Ls (.ref a :: rest) := by
  subst hp
  obtain ⟨cl, Ar, -, S, M, -, -⟩ := A
  rw [← len_of S M] at k
  exact Gol.step (fun _ k => X.arraylength hx (by rw [eT]; exact Ar.1) (State.isArrayOf_alike hZ.alike Ar.2.1) (g := mkF m pc Ls (.ref a :: rest)) rfl rfl (hb hby hd) _ k) k
theorem Gol.iastore (X : Stand p l e R s m args below meth c T locs cells slots) (hx : p.tables.exec = Jvm.exec) (hby : c.code = code) (hZ : Z.Warmed39 s.vm) (eT : T.heap = h) {a : Addr} {ka : ClassId} {z j : Int32} {x : Int32} {vs : List Value} {dv : Value} (A : Arv Z h a ka .int z vs dv) (hd : decode code pc = .ok (.iastore, 1)) (hp : pc + 1 = pc') (hj : ¬ j < 0 ∧ j < z) (i : Nat) (hi : j.toNatClampNeg = i) (hl : i < vs.length)
    (k : ∀ (T' : State) (h' : Heap), Stand p l e R s m args below meth c T' (locs ++ [⟨a, j.toNatClampNeg⟩]) cells slots → T'.heap = h' → Wr h h' a j.toNatClampNeg (.int x) → Arv Z h' a ka .int z (vs.set i (.int x)) dv → GolF p e below Fe Qf kc ks T' m pc' Ls rest) : GolF p e below Fe Qf kc ks T m pc Ls (.int x :: .int j :: .ref a :: rest) := by
  subst hp
  obtain ⟨cl, Ar, q, S, M, Hs, G⟩ := A
  have hin := inb_of S hj
  obtain ⟨T', h', X', e', W, st⟩ := stI X hx hZ eT Ar (j := j) hin (g := mkF m pc Ls (.int x :: .int j :: .ref a :: rest)) rfl rfl (hb hby hd)
  exact Gol.step st (k T' h' X' e' W (Arv.set Ar q S M Hs G rfl W i hi hl))
theorem Gol.lastore (X : Stand p l e R s m args below meth c T locs cells slots) (hx : p.tables.exec = Jvm.exec) (hby : c.code = code) (hZ : Z.Warmed39 s.vm) (eT : T.heap = h) {a : Addr} {ka : ClassId} {z j : Int32} {x : Int64} {vs : List Value} {dv : Value} (A : Arv Z h a ka .long z vs dv) (hd : decode code pc = .ok (.lastore, 1)) (hp : pc + 1 = pc') (hj : ¬ j < 0 ∧ j < z) (i : Nat) (hi : j.toNatClampNeg = i) (hl : i < vs.length)
    (k : ∀ (T' : State) (h' : Heap), Stand p l e R s m args below meth c T' (locs ++ [⟨a, j.toNatClampNeg⟩]) cells slots → T'.heap = h' → Wr h h' a j.toNatClampNeg (.long x) → Arv Z h' a ka .long z (vs.set i (.long x)) dv → GolF p e below Fe Qf kc ks T' m pc' Ls rest) : GolF p e below Fe Qf kc ks T m pc Ls (.long x :: .int j :: .ref a :: rest) := by
  subst hp
  obtain ⟨cl, Ar, q, S, M, Hs, G⟩ := A
  have hin := inb_of S hj
  obtain ⟨T', h', X', e', W, st⟩ := stJ X hx hZ eT Ar (j := j) hin (g := mkF m pc Ls (.long x :: .int j :: .ref a :: rest)) rfl rfl (hb hby hd)
  exact Gol.step st (k T' h' X' e' W (Arv.set Ar q S M Hs G rfl W i hi hl))
theorem Gol.bastore (X : Stand p l e R s m args below meth c T locs cells slots) (hx : p.tables.exec = Jvm.exec) (hby : c.code = code) (hZ : Z.Warmed39 s.vm) (eT : T.heap = h) {a : Addr} {ka : ClassId} {z j : Int32} {x : Int32} {vs : List Value} {dv : Value} (A : Arv Z h a ka .byte z vs dv) (hd : decode code pc = .ok (.bastore, 1)) (hp : pc + 1 = pc') (hj : ¬ j < 0 ∧ j < z) (i : Nat) (hi : j.toNatClampNeg = i) (hl : i < vs.length)
    (k : ∀ (T' : State) (h' : Heap), Stand p l e R s m args below meth c T' (locs ++ [⟨a, j.toNatClampNeg⟩]) cells slots → T'.heap = h' → Wr h h' a j.toNatClampNeg (.int (nar .byte x)) → Arv Z h' a ka .byte z (vs.set i (.int (nar .byte x))) dv → GolF p e below Fe Qf kc ks T' m pc' Ls rest) : GolF p e below Fe Qf kc ks T m pc Ls (.int x :: .int j :: .ref a :: rest) := by
  subst hp
  obtain ⟨cl, Ar, q, S, M, Hs, G⟩ := A
  have hin := inb_of S hj
  obtain ⟨T', h', X', e', W, st⟩ := stB X hx hZ eT Ar (j := j) hin (g := mkF m pc Ls (.int x :: .int j :: .ref a :: rest)) rfl rfl (hb hby hd)
  exact Gol.step st (k T' h' X' e' W (Arv.set Ar q S M Hs G (fits_nar_byte _) W i hi hl))
theorem Gol.castore (X : Stand p l e R s m args below meth c T locs cells slots) (hx : p.tables.exec = Jvm.exec) (hby : c.code = code) (hZ : Z.Warmed39 s.vm) (eT : T.heap = h) {a : Addr} {ka : ClassId} {z j : Int32} {x : Int32} {vs : List Value} {dv : Value} (A : Arv Z h a ka .char z vs dv) (hd : decode code pc = .ok (.castore, 1)) (hp : pc + 1 = pc') (hj : ¬ j < 0 ∧ j < z) (i : Nat) (hi : j.toNatClampNeg = i) (hl : i < vs.length)
    (k : ∀ (T' : State) (h' : Heap), Stand p l e R s m args below meth c T' (locs ++ [⟨a, j.toNatClampNeg⟩]) cells slots → T'.heap = h' → Wr h h' a j.toNatClampNeg (.int (nar .char x)) → Arv Z h' a ka .char z (vs.set i (.int (nar .char x))) dv → GolF p e below Fe Qf kc ks T' m pc' Ls rest) : GolF p e below Fe Qf kc ks T m pc Ls (.int x :: .int j :: .ref a :: rest) := by
  subst hp
  obtain ⟨cl, Ar, q, S, M, Hs, G⟩ := A
  have hin := inb_of S hj
  obtain ⟨T', h', X', e', W, st⟩ := stC X hx hZ eT Ar (j := j) hin (g := mkF m pc Ls (.int x :: .int j :: .ref a :: rest)) rfl rfl (hb hby hd)
  exact Gol.step st (k T' h' X' e' W (Arv.set Ar q S M Hs G (fits_nar_char _) W i hi hl))
theorem Gol.aastore (X : Stand p l e R s m args below meth c T locs cells slots) (hx : p.tables.exec = Jvm.exec) (hby : c.code = code) (hZ : Z.Warmed39 s.vm) (eT : T.heap = h) {a : Addr} {ka : ClassId} {z j : Int32} {x : Value} {ty : FieldType} {vs : List Value} {dv : Value} (A : Arv Z h a ka ty z vs dv) (hd : decode code pc = .ok (.aastore, 1)) (hp : pc + 1 = pc') (hj : ¬ j < 0 ∧ j < z) (i : Nat) (hi : j.toNatClampNeg = i) (hl : i < vs.length) (ht : ty.isReference = true) (hf : fits ty x = true) (so : ∀ cl : Cell, Arr Z h a cl ty → cl.cls = ka → Sto Z h a x)
    (k : ∀ (T' : State) (h' : Heap), Stand p l e R s m args below meth c T' (locs ++ [⟨a, j.toNatClampNeg⟩]) cells slots → T'.heap = h' → Wr h h' a j.toNatClampNeg x → Arv Z h' a ka ty z (vs.set i x) dv → GolF p e below Fe Qf kc ks T' m pc' Ls rest) : GolF p e below Fe Qf kc ks T m pc Ls (x :: .int j :: .ref a :: rest) := by
  subst hp
  obtain ⟨cl, Ar, q, S, M, Hs, G⟩ := A
  have hin := inb_of S hj
  obtain ⟨T', h', X', e', W, st⟩ := stR X hx hZ eT Ar (j := j) hin ht (so cl Ar q) (g := mkF m pc Ls (x :: .int j :: .ref a :: rest)) rfl rfl (hb hby hd)
  exact Gol.step st (k T' h' X' e' W (Arv.set Ar q S M Hs G hf W i hi hl))
theorem Gol.newarr (X : Stand p l e R s m args below meth c T locs cells slots) (hx : p.tables.exec = Jvm.exec) (hby : c.code = code) (hZ : Z.Warmed39 s.vm) {aty : ArrayType} (w : (Cond.arrayClass (newarray.typeOf aty)).before a0 Z = true) (eT : T.heap = h) {n : Int32} (cap : Nat) (hd : decode code pc = .ok (.newarray aty, 2)) (hp : pc + 2 = pc') (hn : ¬ n < 0) (hcap : n.toNatClampNeg ≤ cap) (hb8 : cap * 8 ≤ 536870912) (hc : cells + 1 ≤ R.cells) (hl : slots + cap ≤ R.slots)
    (k : ∀ (T' : State) (h' : Heap) (ka : ClassId) (b : Addr), b = h.size → Stand p l e R s m args below meth c T' locs (cells + 1) (slots + cap) → T'.heap = h' → Ext h h' → Arv Z h' b ka (newarray.typeOf aty) n [] (defaultValue (newarray.typeOf aty)) → GolF p e below Fe Qf kc ks T' m pc' Ls (.ref b :: rest)) : GolF p e below Fe Qf kc ks T m pc Ls (.int n :: rest) := by
  subst hp
  obtain ⟨T', h', ka, X', e', E, A, st⟩ := newP X hx hZ w eT (g := mkF m pc Ls (.int n :: rest)) rfl (hb hby hd) rfl hn (cap := cap) hcap hb8 hc hl
  exact Gol.step st (k T' h' ka _ rfl X' e' E (Arv.new A hn))
theorem Gol.newref (X : Stand p l e R s m args below meth c T locs cells slots) (hx : p.tables.exec = Jvm.exec) (hby : c.code = code) (hZ : Z.Warmed39 s.vm) {own : String} (hown : s.vm.findClass own = some m.cls) {C : String} {index : Nat} (w1 : (Cond.classLink own index C).before a0 Z = true) (w2 : (Cond.arrayOver (.object C)).before a0 Z = true) (eT : T.heap = h) {n : Int32} (cap : Nat) (hd : decode code pc = .ok (.anewarray index, 3)) (hp : pc + 3 = pc') (hn : ¬ n < 0) (hcap : n.toNatClampNeg ≤ cap) (hb8 : cap * 8 ≤ 536870912) (hc : cells + 1 ≤ R.cells) (hl : slots + cap ≤ R.slots)
    (k : ∀ (T' : State) (h' : Heap) (ka : ClassId) (b : Addr), b = h.size → Stand p l e R s m args below meth c T' locs (cells + 1) (slots + cap) → T'.heap = h' → Ext h h' → Arv Z h' b ka (.object C) n [] .null → Ovr Z ka C → GolF p e below Fe Qf kc ks T' m pc' Ls (.ref b :: rest)) : GolF p e below Fe Qf kc ks T m pc Ls (.int n :: rest) := by
  subst hp
  obtain ⟨T', h', ka, X', e', E, A, O, st⟩ := newR X hx hZ hown w1 w2 eT (g := mkF m pc Ls (.int n :: rest)) rfl (hb hby hd) rfl hn (cap := cap) hcap hb8 hc hl
  exact Gol.step st (k T' h' ka _ rfl X' e' E (Arv.new A hn) O)
theorem Gol.getF (X : Stand p l e R s m args below meth c T locs cells slots) (hx : p.tables.exec = Jvm.exec) (hby : c.code = code) (hZ : Z.Warmed39 s.vm) {own : String} (hown : s.vm.findClass own = some m.cls) {R0 O n d host : String} {index : Nat} (w : (Cond.fieldLink own index R0 n d).before a0 Z = true ∨ (Cond.fieldLinkNest own index R0 n d host).before a0 Z = true) (via : Via Z R0 O n d) (eT : T.heap = h) {a : Addr} {v : Value} (F : Fld Z h a O n d v) (hd : decode code pc = .ok (.getfield index, 3)) (hp : pc + 3 = pc')
    (k : ∀ T' : State, Stand p l e R s m args below meth c T' locs cells slots → T'.heap = h → GolF p e below Fe Qf kc ks T' m pc' Ls (v :: rest)) : GolF p e below Fe Qf kc ks T m pc Ls (.ref a :: rest) := by
  subst hp
  obtain ⟨T', X', e', st⟩ := getF X hx hZ hown (host := host) w via eT F (g := mkF m pc Ls (.ref a :: rest)) rfl rfl (hb hby hd)
  exact Gol.step st (k T' X' e')
theorem Gol.getS (X : Stand p l e R s m args below meth c T locs cells slots) (hx : p.tables.exec = Jvm.exec) (hby : c.code = code) (hZ : Z.Warmed39 s.vm) {own : String} (hown : s.vm.findClass own = some m.cls) {R0 O n d host : String} {index : Nat} (w : (Cond.fieldLink own index R0 n d).before a0 Z = true ∨ (Cond.fieldLinkNest own index R0 n d host).before a0 Z = true) (via : Via Z R0 O n d) (eT : T.heap = h) {v : Value} (F : Sta Z h O n d v) (hd : decode code pc = .ok (.getstatic index, 3)) (hp : pc + 3 = pc')
    (k : ∀ T' : State, Stand p l e R s m args below meth c T' locs cells slots → T'.heap = h → GolF p e below Fe Qf kc ks T' m pc' Ls (v :: rest)) : GolF p e below Fe Qf kc ks T m pc Ls rest := by
  subst hp
  obtain ⟨T', X', e', st⟩ := getS2 X hx hZ hown (host := host) w via eT F (g := mkF m pc Ls rest) rfl (hb hby hd)
  exact Gol.step st (k T' X' e')
theorem Gol.putF (X : Stand p l e R s m args below meth c T locs cells slots) (hx : p.tables.exec = Jvm.exec) (hby : c.code = code) (hZ : Z.Warmed39 s.vm) {own : String} (hown : s.vm.findClass own = some m.cls) {R0 O n d host : String} {index : Nat} (w : (Cond.fieldLink own index R0 n d).before a0 Z = true ∨ (Cond.fieldLinkNest own index R0 n d host).before a0 Z = true) (via : Via Z R0 O n d) (eT : T.heap = h) {C : String} {kk : Nat} {ty : FieldType} {a : Addr} {v old : Value} (F : Fld Z h a O n d old) (E : Exa Z h a C) (L : (Cond.lays C O n d).before a0 Z = true ∨ ((Cond.laysFinal C O n d).before a0 Z = true ∧ own = O ∧ meth.name = "<init>")) (wi : (Cond.instantiable C kk).before a0 Z = true) (hty : parseFieldDescriptor d = some ty) (hn : narrow ty v = v) (hf : fits ty v = true) (hd : decode code pc = .ok (.putfield index, 3)) (hp : pc + 3 = pc')
    (k : ∀ (T' : State) (h' : Heap), Stand p l e R s m args below meth c T' (locs ++ [⟨a, slotOf Z O n d⟩]) cells slots → T'.heap = h' → Wr h h' a (slotOf Z O n d) v → GolF p e below Fe Qf kc ks T' m pc' Ls rest) : GolF p e below Fe Qf kc ks T m pc Ls (v :: .ref a :: rest) := by
  subst hp
  obtain ⟨T', h', X', e', W, st⟩ := putF X hx hZ hown (host := host) w via eT F E L wi hty hn hf (g := mkF m pc Ls (v :: .ref a :: rest)) rfl rfl (hb hby hd)
  exact Gol.step st (k T' h' X' e' W)
theorem Gol.putFN (X : Stand p l e R s m args below meth c T locs cells slots) (hx : p.tables.exec = Jvm.exec) (hby : c.code = code) (hZ : Z.Warmed39 s.vm) {own : String} (hown : s.vm.findClass own = some m.cls) {R0 O n d : String} {index : Nat} (w : (Cond.fieldLink own index R0 n d).before a0 Z = true) (via : Via Z R0 O n d) (eT : T.heap = h) {C : String} {kk : Nat} {ty : FieldType} {a : Addr} {v v' old : Value} (F : Fld Z h a O n d old) (E : Exa Z h a C) (L : (Cond.lays C O n d).before a0 Z = true ∨ ((Cond.laysFinal C O n d).before a0 Z = true ∧ own = O ∧ meth.name = "<init>")) (wi : (Cond.instantiable C kk).before a0 Z = true) (hty : parseFieldDescriptor d = some ty) (hn : narrow ty v = v') (hf : fits ty v' = true) (hd : decode code pc = .ok (.putfield index, 3)) (hp : pc + 3 = pc')
    (k : ∀ (T' : State) (h' : Heap), Stand p l e R s m args below meth c T' (locs ++ [⟨a, slotOf Z O n d⟩]) cells slots → T'.heap = h' → Wr h h' a (slotOf Z O n d) v' → GolF p e below Fe Qf kc ks T' m pc' Ls rest) : GolF p e below Fe Qf kc ks T m pc Ls (v :: .ref a :: rest) := by
  subst hp
  obtain ⟨T', h', X', e', W, st⟩ := putFN X hx hZ hown w via eT F E L wi hty hn hf (g := mkF m pc Ls (v :: .ref a :: rest)) rfl rfl (hb hby hd)
  exact Gol.step st (k T' h' X' e' W)
theorem Gol.newO (X : Stand p l e R s m args below meth c T locs cells slots) (hx : p.tables.exec = Jvm.exec) (hby : c.code = code) (hZ : Z.Warmed39 s.vm) {own : String} (hown : s.vm.findClass own = some m.cls) {C : String} {index n : Nat} (w : (Cond.classLink own index C).before a0 Z = true) (wi : (Cond.instantiable C n).before a0 Z = true) (wz : (Cond.initialized C).before a0 Z = true) (eT : T.heap = h) (hd : decode code pc = .ok (.new index, 3)) (hp : pc + 3 = pc') (hc : cells + 1 ≤ R.cells) (hl : slots + n ≤ R.slots)
    (k : ∀ (T' : State) (h' : Heap) (b : Addr), b = h.size → Stand p l e R s m args below meth c T' locs (cells + 1) (slots + n) → T'.heap = h' → Ext h h' → Exa Z h' b C → (∀ {O nm d : String} {ty : FieldType}, Laid Z a0 C O nm d → parseFieldDescriptor d = some ty → Fld Z h' b O nm d (defaultValue ty)) → GolF p e below Fe Qf kc ks T' m pc' Ls (.ref b :: rest)) : GolF p e below Fe Qf kc ks T m pc Ls rest := by
  subst hp
  obtain ⟨T', h', X', e', E, A, D, -, st⟩ := newO X hx hZ hown w wi wz eT (g := mkF m pc Ls rest) rfl (hb hby hd) hc hl
  exact Gol.step st (k T' h' _ rfl X' e' E A D)
theorem Gol.initO (X : Stand p l e R s m args below meth c T locs cells slots) (hx : p.tables.exec = Jvm.exec) (hby : c.code = code) (hZ : Z.Warmed39 s.vm) {own : String} (hown : s.vm.findClass own = some m.cls) {index : Nat} (w1 : (Cond.methodLink own index Lib.objectInit).before a0 Z = true) (w2 : (Cond.instanceMethod Lib.objectInit).before a0 Z = true) (w3 : (Cond.code Lib.objectInit ⟨#[0xb1]⟩ 1 none).before a0 Z = true) (eT : T.heap = h) (W : Nat) {a : Addr} (hd : decode code pc = .ok (.invokespecial index, 3)) (hp : pc + 3 = pc') (hsz : Ls.size = c.maxLocals) (hf : 1 ≤ R.frames) (hW : (rest.map fun v => v.category).sum ≤ W) (hl : W + 12 ≤ R.locals)
    (k : ∀ T' : State, Stand p l e R s m args below meth c T' locs cells slots → T'.heap = h → GolF p e below Fe Qf kc ks T' m pc' Ls rest) : GolF p e below Fe Qf kc ks T m pc Ls (.ref a :: rest) := by
  subst hp
  obtain ⟨T', X', e', st⟩ := initO X hx hZ hown w1 w2 w3 eT (g := mkF m pc Ls (.ref a :: rest)) rfl hsz rfl (hb hby hd) hf (W := W) (by show 2 * 0 + _ ≤ _; rw [Nat.mul_zero, Nat.zero_add]; exact hW) hl
  exact Gol.step st (k T' X' e')
theorem Gol.castY (X : Stand p l e R s m args below meth c T locs cells slots) (hx : p.tables.exec = Jvm.exec) (hby : c.code = code) (hZ : Z.Warmed39 s.vm) {own : String} (hown : s.vm.findClass own = some m.cls) {K : String} {index : Nat} (w : (Cond.classLink own index K).before a0 Z = true) (eT : T.heap = h) {a : Addr} (F : Ins Z h a K true) (hd : decode code pc = .ok (.checkcast index, 3)) (hp : pc + 3 = pc')
    (k : ∀ T' : State, Stand p l e R s m args below meth c T' locs cells slots → T'.heap = h → GolF p e below Fe Qf kc ks T' m pc' Ls (.ref a :: rest)) : GolF p e below Fe Qf kc ks T m pc Ls (.ref a :: rest) := by
  subst hp
  obtain ⟨T', X', e', st⟩ := castY X hx hZ hown w eT F (g := mkF m pc Ls (.ref a :: rest)) rfl rfl (hb hby hd)
  exact Gol.step st (k T' X' e')
theorem Gol.instY (X : Stand p l e R s m args below meth c T locs cells slots) (hx : p.tables.exec = Jvm.exec) (hby : c.code = code) (hZ : Z.Warmed39 s.vm) {own : String} (hown : s.vm.findClass own = some m.cls) {K : String} {index : Nat} (w : (Cond.classLink own index K).before a0 Z = true) (eT : T.heap = h) {a : Addr} (F : Ins Z h a K true) (hd : decode code pc = .ok (.instanceof index, 3)) (hp : pc + 3 = pc')
    (k : ∀ T' : State, Stand p l e R s m args below meth c T' locs cells slots → T'.heap = h → GolF p e below Fe Qf kc ks T' m pc' Ls (.int 1 :: rest)) : GolF p e below Fe Qf kc ks T m pc Ls (.ref a :: rest) := by
  subst hp
  obtain ⟨T', X', e', st⟩ := instY X hx hZ hown w eT F (g := mkF m pc Ls (.ref a :: rest)) rfl rfl (hb hby hd)
  exact Gol.step st (k T' X' e')
theorem Gol.callS (X : Stand p l e R s m args below meth c T locs cells slots) (hx : p.tables.exec = Jvm.exec) (hby : c.code = code) (hZ : Z.Warmed39 s.vm) {own : String} (hown : s.vm.findClass own = some m.cls) {index : Nat} {y : MethodName} {bytes : ByteArray} {maxL : Nat} {ret : Option FieldType} {rm : Room} {Q : Option Value → Heap → List Loc → Prop} (W : Nat) (argsL : List Value) (wl : (Cond.methodLink own index y).before a0 Z = true) (ws : (Cond.static y).before a0 Z = true) (wz : (Cond.initialized y.cls).before a0 Z = true) (wc : (Cond.code y bytes maxL ret).before a0 Z = true) (hy : y.cls ≠ "java/lang/invoke/MethodHandle" ∧ y.cls ≠ "java/lang/invoke/VarHandle") (hM : MetFree l y (head1 [Cond.code y bytes maxL ret] rm) (fun aa U => aa = argsL.toArray ∧ Z.Warmed39 U.vm ∧ U.heap = h) (fun _ _ _ _ _ => True) (fun _ U o U' => ∃ v L, o = .returned v ∧ Q v U'.heap L ∧ FrameEnd U o U' L rm.cells rm.slots)) (hf : rm.frames + 1 ≤ R.frames) (hl : W + (maxL + 11) + rm.locals ≤ R.locals) (eT : T.heap = h) {st : List Value} (hsz : Ls.size = c.maxLocals) (hW : (rest.map fun v => v.category).sum ≤ W) (hc : cells + rm.cells ≤ R.cells) (hs : slots + rm.slots ≤ R.slots) (hlen : ∀ sig, parseMethodDescriptor y.desc = some sig → argsL.length = sig.parameters.length) (hst : st = argsL.reverse ++ rest) (hd : decode code pc = .ok (.invokestatic index, 3)) (hp : pc + 3 = pc')
    (k : ∀ (T' : State) (v : Option Value) (L : List Loc), Stand p l e R s m args below meth c T' (locs ++ L) (cells + rm.cells) (slots + rm.slots) → Q v T'.heap L → GolF p e below Fe Qf kc ks T' m pc' Ls (v.toList ++ rest)) : GolF p e below Fe Qf kc ks T m pc Ls st := by
  subst hp
  obtain ⟨v, _, ⟨T', L1, k1, n1⟩, -, X', ⟨Lc, hQ, l1, y1, z1⟩, st1⟩ := Jvm.LawKit.callS X hx hown (mvT hZ wl) (mvT hZ ws) (mvT hZ wz) (mvT hZ wc) hy (backOf (W := W) hM hZ wc wz hf hl) (g := mkF m pc Ls st) rfl hsz hlen hst (by show 2 * 0 + _ ≤ _; rw [Nat.mul_zero, Nat.zero_add]; exact hW) (hb hby hd) (fun _ _ => ⟨rfl, eT, hc, hs⟩)
  dsimp only [Pt.U, Pt.locs, Pt.cells, Pt.slots] at X' l1 y1 z1 st1 hQ
  subst l1 y1 z1
  exact Gol.step st1 (k T' v Lc X' hQ)
theorem Gol.callI (X : Stand p l e R s m args below meth c T locs cells slots) (hx : p.tables.exec = Jvm.exec) (hby : c.code = code) (hZ : Z.Warmed39 s.vm) {own : String} (hown : s.vm.findClass own = some m.cls) {index : Nat} {y : MethodName} {bytes : ByteArray} {maxL : Nat} {ret : Option FieldType} {rm : Room} {Q : Option Value → Heap → List Loc → Prop} (W : Nat) (argsL : List Value) {a : Addr} (wl : (Cond.methodLink own index y).before a0 Z = true) (wi : (Cond.instanceMethod y).before a0 Z = true) (wz : (Cond.initialized y.cls).before a0 Z = true) (hrt : ret = none) (wc : (Cond.code y bytes maxL ret).before a0 Z = true) (hn : y.name = "<init>") (hy : y.cls ≠ "java/lang/invoke/MethodHandle" ∧ y.cls ≠ "java/lang/invoke/VarHandle") (hM : MetFree l y (head1 [Cond.code y bytes maxL ret] rm) (fun aa U => aa = (.ref a :: argsL).toArray ∧ Z.Warmed39 U.vm ∧ U.heap = h) (fun _ _ _ _ _ => True) (fun _ U o U' => ∃ v L, o = .returned v ∧ Q v U'.heap L ∧ FrameEnd U o U' L rm.cells rm.slots)) (hf : rm.frames + 1 ≤ R.frames) (hl : W + (maxL + 11) + rm.locals ≤ R.locals) (eT : T.heap = h) {st : List Value} (hsz : Ls.size = c.maxLocals) (hW : (rest.map fun v => v.category).sum ≤ W) (hc : cells + rm.cells ≤ R.cells) (hs : slots + rm.slots ≤ R.slots) (hlen : ∀ sig, parseMethodDescriptor y.desc = some sig → argsL.length = sig.parameters.length) (hst : st = argsL.reverse ++ .ref a :: rest) (hd : decode code pc = .ok (.invokespecial index, 3)) (hp : pc + 3 = pc')
    (k : ∀ (T' : State) (v : Option Value) (L : List Loc), Stand p l e R s m args below meth c T' (locs ++ L) (cells + rm.cells) (slots + rm.slots) → Q v T'.heap L → GolF p e below Fe Qf kc ks T' m pc' Ls (v.toList ++ rest)) : GolF p e below Fe Qf kc ks T m pc Ls st := by
  subst hp hrt
  obtain ⟨v, _, ⟨T', L1, k1, n1⟩, -, X', ⟨Lc, hQ, l1, y1, z1⟩, st1⟩ := X.specialBack hx hn hown (mvT hZ wl) (mvT hZ wi) (mvT hZ wc) hy (backOf (W := W) hM hZ wc wz hf hl) (g := mkF m pc Ls st) rfl hsz (Steps.refl _) (a := a) hlen hst (by show 2 * 0 + _ ≤ _; rw [Nat.mul_zero, Nat.zero_add]; exact hW) (hb hby hd) (fun _ _ => ⟨rfl, eT, hc, hs⟩)
  dsimp only [Pt.U, Pt.locs, Pt.cells, Pt.slots] at X' l1 y1 z1 st1 hQ
  subst l1 y1 z1
  exact Gol.step (fun _ k => st1.trans k) (k T' v Lc X' hQ)
theorem Gol.callV (X : Stand p l e R s m args below meth c T locs cells slots) (hx : p.tables.exec = Jvm.exec) (hby : c.code = code) (hZ : Z.Warmed39 s.vm) {own : String} (hown : s.vm.findClass own = some m.cls) {index : Nat} {y z : MethodName} {C : String} {bytes : ByteArray} {maxL : Nat} {ret : Option FieldType} {rm : Room} {Q : Option Value → Heap → List Loc → Prop} (W : Nat) (argsL : List Value) {a : Addr} (wl : (Cond.methodLink own index y).before a0 Z = true) (wd : (Cond.declares y).before a0 Z = true) (nf : NotFace s y) (wse : (Cond.selects C y z).before a0 Z = true) (wi : (Cond.instanceMethod z).before a0 Z = true) (wz : (Cond.initialized z.cls).before a0 Z = true) (wc : (Cond.code z bytes maxL ret).before a0 Z = true) (hy : y.cls ≠ "java/lang/invoke/MethodHandle" ∧ y.cls ≠ "java/lang/invoke/VarHandle") (E : Exa Z h a C) (hM : MetFree l z (head1 [Cond.code z bytes maxL ret] rm) (fun aa U => aa = (.ref a :: argsL).toArray ∧ Z.Warmed39 U.vm ∧ U.heap = h) (fun _ _ _ _ _ => True) (fun _ U o U' => ∃ v L, o = .returned v ∧ Q v U'.heap L ∧ FrameEnd U o U' L rm.cells rm.slots)) (hf : rm.frames + 1 ≤ R.frames) (hl : W + (maxL + 11) + rm.locals ≤ R.locals) (eT : T.heap = h) {st : List Value} (hsz : Ls.size = c.maxLocals) (hW : (rest.map fun v => v.category).sum ≤ W) (hc : cells + rm.cells ≤ R.cells) (hs : slots + rm.slots ≤ R.slots) (hlen : ∀ sig, parseMethodDescriptor y.desc = some sig → argsL.length = sig.parameters.length) (hst : st = argsL.reverse ++ .ref a :: rest) (hd : decode code pc = .ok (.invokevirtual index, 3)) (hp : pc + 3 = pc')
    (k : ∀ (T' : State) (v : Option Value) (L : List Loc), Stand p l e R s m args below meth c T' (locs ++ L) (cells + rm.cells) (slots + rm.slots) → Q v T'.heap L → GolF p e below Fe Qf kc ks T' m pc' Ls (v.toList ++ rest)) : GolF p e below Fe Qf kc ks T m pc Ls st := by
  subst hp
  obtain ⟨cq, kq, qa, qb, qc⟩ := isOf hZ eT E
  obtain ⟨v, _, ⟨T', L1, k1, n1⟩, -, X', ⟨Lc, hQ, l1, y1, z1⟩, st1⟩ := X.virtualBack hx hown (mvT hZ wl) (mvT hZ wd) nf (mvT hZ wse) (mvT hZ wi) hy (backOf (W := W) hM hZ wc wz hf hl) qa qc (g := mkF m pc Ls st) rfl hsz (Steps.refl _) hlen hst (by show 2 * 0 + _ ≤ _; rw [Nat.mul_zero, Nat.zero_add]; exact hW) (hb hby hd) (fun _ _ => ⟨rfl, eT, hc, hs⟩)
  dsimp only [Pt.U, Pt.locs, Pt.cells, Pt.slots] at X' l1 y1 z1 st1 hQ
  subst l1 y1 z1
  exact Gol.step (fun _ k => st1.trans k) (k T' v Lc X' hQ)
theorem Gol.callF (X : Stand p l e R s m args below meth c T locs cells slots) (hx : p.tables.exec = Jvm.exec) (hby : c.code = code) (hZ : Z.Warmed39 s.vm) {own : String} (hown : s.vm.findClass own = some m.cls) {index count : Nat} {y z : MethodName} {C : String} {bytes : ByteArray} {maxL : Nat} {ret : Option FieldType} {rm : Room} {Q : Option Value → Heap → List Loc → Prop} (W : Nat) (argsL : List Value) {a : Addr} (wl : (Cond.methodLink own index y).before a0 Z = true) (wd : (Cond.declares y).before a0 Z = true) (wf : (Cond.interfaceMethod y.cls y.cls y.name y.desc).before args s = true) (wse : (Cond.selects C y z).before a0 Z = true) (wi : (Cond.instanceMethod z).before a0 Z = true) (wp : (Cond.publicMethod z).before a0 Z = true) (wu : (Cond.unhidden C y.name y.desc).before a0 Z = true) (wt : (Cond.castable C y.cls).before a0 Z = true) (wz : (Cond.initialized z.cls).before a0 Z = true) (wc : (Cond.code z bytes maxL ret).before a0 Z = true) (hy : y.cls ≠ "java/lang/invoke/MethodHandle" ∧ y.cls ≠ "java/lang/invoke/VarHandle") (E : Exa Z h a C) (hM : MetFree l z (head1 [Cond.code z bytes maxL ret] rm) (fun aa U => aa = (.ref a :: argsL).toArray ∧ Z.Warmed39 U.vm ∧ U.heap = h) (fun _ _ _ _ _ => True) (fun _ U o U' => ∃ v L, o = .returned v ∧ Q v U'.heap L ∧ FrameEnd U o U' L rm.cells rm.slots)) (hf : rm.frames + 1 ≤ R.frames) (hl : W + (maxL + 11) + rm.locals ≤ R.locals) (eT : T.heap = h) {st : List Value} (hsz : Ls.size = c.maxLocals) (hW : (rest.map fun v => v.category).sum ≤ W) (hc : cells + rm.cells ≤ R.cells) (hs : slots + rm.slots ≤ R.slots) (hlen : ∀ sig, parseMethodDescriptor y.desc = some sig → argsL.length = sig.parameters.length) (hst : st = argsL.reverse ++ .ref a :: rest) (hd : decode code pc = .ok (.invokeinterface index count, 5)) (hp : pc + 5 = pc')
    (k : ∀ (T' : State) (v : Option Value) (L : List Loc), Stand p l e R s m args below meth c T' (locs ++ L) (cells + rm.cells) (slots + rm.slots) → Q v T'.heap L → GolF p e below Fe Qf kc ks T' m pc' Ls (v.toList ++ rest)) : GolF p e below Fe Qf kc ks T m pc Ls st := by
  subst hp
  obtain ⟨cq, kq, qa, qb, qc⟩ := isOf hZ eT E
  obtain ⟨v, _, ⟨T', L1, k1, n1⟩, -, X', ⟨Lc, hQ, l1, y1, z1⟩, st1⟩ := X.interfaceBack hx hown (mvT hZ wl) (mvT hZ wd) wf (mvT hZ wse) (mvT hZ wi) (mvT hZ wp) (mvT hZ wu) (mvT hZ wt) hy (backOf (W := W) hM hZ wc wz hf hl) qa qb qc (g := mkF m pc Ls st) rfl hsz (Steps.refl _) hlen hst (by show 2 * 0 + _ ≤ _; rw [Nat.mul_zero, Nat.zero_add]; exact hW) (hb hby hd) (fun _ _ => ⟨rfl, eT, hc, hs⟩)
  dsimp only [Pt.U, Pt.locs, Pt.cells, Pt.slots] at X' l1 y1 z1 st1 hQ
  subst l1 y1 z1
  exact Gol.step (fun _ k => st1.trans k) (k T' v Lc X' hQ)
theorem Gol.callP (X : Stand p l e R s m args below meth c T locs cells slots) (hx : p.tables.exec = Jvm.exec) (hby : c.code = code) (hZ : Z.Warmed39 s.vm) {own : String} (hown : s.vm.findClass own = some m.cls) {index : Nat} {y : MethodName} {C : String} {bytes : ByteArray} {maxL : Nat} {ret : Option FieldType} {rm : Room} {Q : Option Value → Heap → List Loc → Prop} (W : Nat) (argsL : List Value) {a : Addr} (wl : (Cond.methodLink own index y).before a0 Z = true) (wi : (Cond.instanceMethod y).before a0 Z = true) (wse : (Cond.selects y.cls y y).before a0 Z = true) (wp : (Cond.privateMethod y).before a0 Z = true) (wz : (Cond.initialized y.cls).before a0 Z = true) (wc : (Cond.code y bytes maxL ret).before a0 Z = true) (hy : y.cls ≠ "java/lang/invoke/MethodHandle" ∧ y.cls ≠ "java/lang/invoke/VarHandle") (E : Exa Z h a C) (hM : MetFree l y (head1 [Cond.code y bytes maxL ret] rm) (fun aa U => aa = (.ref a :: argsL).toArray ∧ Z.Warmed39 U.vm ∧ U.heap = h) (fun _ _ _ _ _ => True) (fun _ U o U' => ∃ v L, o = .returned v ∧ Q v U'.heap L ∧ FrameEnd U o U' L rm.cells rm.slots)) (hf : rm.frames + 1 ≤ R.frames) (hl : W + (maxL + 11) + rm.locals ≤ R.locals) (eT : T.heap = h) {st : List Value} (hsz : Ls.size = c.maxLocals) (hW : (rest.map fun v => v.category).sum ≤ W) (hc : cells + rm.cells ≤ R.cells) (hs : slots + rm.slots ≤ R.slots) (hlen : ∀ sig, parseMethodDescriptor y.desc = some sig → argsL.length = sig.parameters.length) (hst : st = argsL.reverse ++ .ref a :: rest) (hd : decode code pc = .ok (.invokevirtual index, 3)) (hp : pc + 3 = pc')
    (k : ∀ (T' : State) (v : Option Value) (L : List Loc), Stand p l e R s m args below meth c T' (locs ++ L) (cells + rm.cells) (slots + rm.slots) → Q v T'.heap L → GolF p e below Fe Qf kc ks T' m pc' Ls (v.toList ++ rest)) : GolF p e below Fe Qf kc ks T m pc Ls st := by
  subst hp
  obtain ⟨cq, qa, qb⟩ := E.cell
  obtain ⟨v, _, ⟨T', L1, k1, n1⟩, -, X', ⟨Lc, hQ, l1, y1, z1⟩, st1⟩ := X.privateBack hx hown (mvT hZ wl) (mvT hZ wi) (mvT hZ wse) (Cond.privateMethod_at (mvP hZ wp (args := #[]))) (mvT hZ wc) hy (backOf (W := W) hM hZ wc wz hf hl) (g := mkF m pc Ls st) rfl hsz (Steps.refl _) (a := a) (by rw [eT]; exact qa) qb hlen hst (by show 2 * 0 + _ ≤ _; rw [Nat.mul_zero, Nat.zero_add]; exact hW) (hb hby hd) (fun _ _ => ⟨rfl, eT, hc, hs⟩)
  dsimp only [Pt.U, Pt.locs, Pt.cells, Pt.slots] at X' l1 y1 z1 st1 hQ
  subst l1 y1 z1
  exact Gol.step (fun _ k => st1.trans k) (k T' v Lc X' hQ)
theorem Gol.callB (X : Stand p l e R s m args below meth c T locs cells slots) (hx : p.tables.exec = Jvm.exec) (hby : c.code = code) (hZ : Z.Warmed39 s.vm) {own : String} (hown : s.vm.findClass own = some m.cls) {index : Nat} {y : MethodName} {bytes : ByteArray} {maxL : Nat} {Q : Option Value → Heap → List Loc → Prop} (W : Nat) (argsL : List Value) {a : Addr} {ck cn : Nat} (wl : (Cond.methodLink own index y).before a0 Z = true) (wi : (Cond.instanceMethod y).before a0 Z = true) (wc : (Cond.code y bytes maxL none).before a0 Z = true) (hn : y.name = "<init>") (hy : y.cls ≠ "java/lang/invoke/MethodHandle" ∧ y.cls ≠ "java/lang/invoke/VarHandle")
    (hK : Back l R p e below s args y 3 W (fun A aa => aa = (.ref a :: argsL).toArray ∧ A.U.heap = h ∧ A.cells + ck ≤ R.cells ∧ A.slots + cn ≤ R.slots) (fun A _ v B => ∃ L, Q v B.U.heap L ∧ B.locs = A.locs ++ L ∧ B.cells = A.cells + ck ∧ B.slots = A.slots + cn)) (eT : T.heap = h) {st : List Value} (hsz : Ls.size = c.maxLocals) (hW : (rest.map fun v => v.category).sum ≤ W) (hc : cells + ck ≤ R.cells) (hs : slots + cn ≤ R.slots) (hlen : ∀ sig, parseMethodDescriptor y.desc = some sig → argsL.length = sig.parameters.length) (hst : st = argsL.reverse ++ .ref a :: rest) (hd : decode code pc = .ok (.invokespecial index, 3)) (hp : pc + 3 = pc')
    (k : ∀ (T' : State) (v : Option Value) (L : List Loc), Stand p l e R s m args below meth c T' (locs ++ L) (cells + ck) (slots + cn) → Q v T'.heap L → GolF p e below Fe Qf kc ks T' m pc' Ls (v.toList ++ rest)) : GolF p e below Fe Qf kc ks T m pc Ls st := by
  subst hp
  obtain ⟨v, _, ⟨T', L1, k1, n1⟩, -, X', ⟨Lc, hQ, l1, y1, z1⟩, st1⟩ := X.specialBack hx hn hown (mvT hZ wl) (mvT hZ wi) (mvT hZ wc) hy hK (g := mkF m pc Ls st) rfl hsz (Steps.refl _) (a := a) hlen hst (by show 2 * 0 + _ ≤ _; rw [Nat.mul_zero, Nat.zero_add]; exact hW) (hb hby hd) (fun _ _ => ⟨rfl, eT, hc, hs⟩)
  dsimp only [Pt.U, Pt.locs, Pt.cells, Pt.slots] at X' l1 y1 z1 st1 hQ
  subst l1 y1 z1
  exact Gol.step (fun _ k => st1.trans k) (k T' v Lc X' hQ)
theorem Gol.retN (X : Stand p l e R s m args below meth c T locs cells slots) (hx : p.tables.exec = Jvm.exec) (hby : c.code = code) {z : Int32} {t : FieldType} (hret : meth.sig.returnType = some t) (ht : t = .boolean ∨ t = .byte ∨ t = .char ∨ t = .short) (hlk : meth.locks = false) (hd : decode code pc = .ok (.ireturn, 1)) (eT : T.heap = h) (hq : Qf (some (.int (nar t z))) h locs) (hc : cells ≤ kc) (hs : slots ≤ ks) : GolF p e below (FrameEnd s) Qf kc ks T m pc Ls (.int z :: rest) :=
  Gol.fin X (fun h => by rw [hret] at h; cases h) hlk eT hq hc hs fun fs hr => Jvm.RoadKit.retN X hx hret ht (hb hby hd) hr
theorem Gol.retI (X : Stand p l e R s m args below meth c T locs cells slots) (hx : p.tables.exec = Jvm.exec) (hby : c.code = code) {z : Int32} (hret : meth.sig.returnType = some .int) (hlk : meth.locks = false) (hd : decode code pc = .ok (.ireturn, 1)) (eT : T.heap = h) (hq : Qf (some (.int z)) h locs) (hc : cells ≤ kc) (hs : slots ≤ ks) : GolF p e below (FrameEnd s) Qf kc ks T m pc Ls (.int z :: rest) :=
  Gol.fin X (fun h => by rw [hret] at h; cases h) hlk eT hq hc hs fun fs hr => Jvm.RoadKit.retOut X hx hret rfl (Or.inl ⟨rfl, Or.inl rfl, _, rfl⟩) (hb hby hd) hr
theorem Gol.retL (X : Stand p l e R s m args below meth c T locs cells slots) (hx : p.tables.exec = Jvm.exec) (hby : c.code = code) {z : Int64} (hret : meth.sig.returnType = some .long) (hlk : meth.locks = false) (hd : decode code pc = .ok (.lreturn, 1)) (eT : T.heap = h) (hq : Qf (some (.long z)) h locs) (hc : cells ≤ kc) (hs : slots ≤ ks) : GolF p e below (FrameEnd s) Qf kc ks T m pc Ls (.long z :: rest) :=
  Gol.fin X (fun h => by rw [hret] at h; cases h) hlk eT hq hc hs fun fs hr => Jvm.RoadKit.retOut X hx hret rfl (Or.inr (Or.inl ⟨rfl, rfl, _, rfl⟩)) (hb hby hd) hr
theorem Gol.retA (X : Stand p l e R s m args below meth c T locs cells slots) (hx : p.tables.exec = Jvm.exec) (hby : c.code = code) {w : Value} {t : FieldType} (hret : meth.sig.returnType = some t) (ht : t.isReference = true) (hw : w.isRef = true) (hlk : meth.locks = false) (hd : decode code pc = .ok (.areturn, 1)) (eT : T.heap = h) (hq : Qf (some w) h locs) (hc : cells ≤ kc) (hs : slots ≤ ks) : GolF p e below (FrameEnd s) Qf kc ks T m pc Ls (w :: rest) :=
  Gol.fin X (fun h => by rw [hret] at h; cases h) hlk eT hq hc hs fun fs hr => Jvm.RoadKit.retOut X hx hret (by rcases ref_cases hw with rfl | ⟨a, rfl⟩ <;> cases t <;> first | rfl | (simp [FieldType.isReference] at ht)) (Or.inr (Or.inr (Or.inr (Or.inr ⟨rfl, ht, hw⟩)))) (hb hby hd) hr
theorem Gol.ret0 (X : Stand p l e R s m args below meth c T locs cells slots) (hx : p.tables.exec = Jvm.exec) (hby : c.code = code) (hret : meth.sig.returnType = none) (hlk : meth.locks = false) (hd : decode code pc = .ok (.return_, 1)) (eT : T.heap = h) (hq : Qf none h locs) (hc : cells ≤ kc) (hs : slots ≤ ks) : GolF p e below (FrameEnd s) Qf kc ks T m pc Ls [] :=
  Gol.fin X (fun _ => rfl) hlk eT hq hc hs fun fs hr => X.returnOut hx hret (hb hby hd) hr
theorem Gol.retNW {vm₁ : Vm} (X : Stand p l e R (s.setVm vm₁) m args below meth c T locs cells slots) (hx : p.tables.exec = Jvm.exec) (hby : c.code = code) {n : Nat} (hS : s.Since vm₁ n) (hn : n ≤ h.size) {z : Int32} {t : FieldType} (hret : meth.sig.returnType = some t) (ht : t = .boolean ∨ t = .byte ∨ t = .char ∨ t = .short) (hlk : meth.locks = false) (hd : decode code pc = .ok (.ireturn, 1)) (eT : T.heap = h) (hq : Qf (some (.int (nar t z))) h locs) (hc : cells ≤ kc) (hs : slots ≤ ks) : GolF p e below (ReturnedEndW s) Qf kc ks T m pc Ls (.int z :: rest) :=
  Gol.finW X hS (eT ▸ hn) (fun h => by rw [hret] at h; cases h) hlk eT hq hc hs fun fs hr => Jvm.RoadKit.retN X hx hret ht (hb hby hd) hr
theorem Gol.ldcStr {vm₁ : Vm} (X : Stand p l e R (s.setVm vm₁) m args below meth c T locs cells slots) (hx : p.tables.exec = Jvm.exec) (hby : c.code = code) {own text : String} {index : Nat} (hZ : Z.Warmed39 vm₁) (hown : vm₁.findClass own = some m.cls) (w : (Cond.stringLink own index text).before a0 Z = true) (wS : ∀ a ∈ Bundle.stringAtoms, a.before a0 Z = true) (eT : T.heap = h) {k0 : Nat} (hS : s.Since vm₁ k0) (hk : k0 ≤ h.size) (n : Nat) (hd : decode code pc = .ok (.ldc index, 2)) (hp : pc + 2 = pc') (hn : 4 * text.toList.length ≤ n) (hbig : n ≤ 536870912) (hc : cells + 2 ≤ R.cells) (hl : slots + (n + 4) ≤ R.slots)
    (k : ∀ (a : Addr) (T' : State) (h' : Heap) (k1 : Nat), Stand p l e R (s.setVm T'.vm) m args below meth c T' locs (cells + 2) (slots + (n + 4)) → T'.heap = h' → Ext h h' → s.Since T'.vm k1 → k1 ≤ h'.size → Z.Warmed39 (s.setVm T'.vm).vm → (s.setVm T'.vm).vm.findClass own = some m.cls → GolF p e below Fe Qf kc ks T' m pc' Ls (.ref a :: rest)) : GolF p e below Fe Qf kc ks T m pc Ls rest := by
  subst hp
  obtain ⟨a, T', h', k1, X', e', E, S', K', Z', O', st⟩ := ldcS X hx hZ hown w wS eT hS hk (g := mkF m pc Ls rest) rfl (hb hby hd) (n := n) hn hbig hc hl
  exact Gol.step st (k a T' h' k1 X' e' E S' K' Z' O')
theorem nar_ite {P : Prop} [Decidable P] {a b : Int32} (ha : nar .boolean a = a) (hb : nar .boolean b = b) : nar .boolean (if P then a else b) = (if P then a else b) := by
  split <;> assumption
theorem tltL {x y : Int64} (h : x < y) : ifCond.holds .lt (XT.cmpL x y) = true ∧ ifCond.holds .ge (XT.cmpL x y) = false := by
  have h1 : ¬ y < x := fun q => Int64.lt_irrefl (Int64.lt_trans h q)
  have h2 : ¬ x = y := fun q => Int64.lt_irrefl (q ▸ h)
  simp [XT.cmpL, h1, h2, ifCond.holds]
theorem fltL {x y : Int64} (h : ¬ x < y) : ifCond.holds .lt (XT.cmpL x y) = false ∧ ifCond.holds .ge (XT.cmpL x y) = true := by
  by_cases h1 : y < x
  · simp [XT.cmpL, h1, ifCond.holds]
  · have h2 : x = y := Int64.le_antisymm (Int64.not_lt.mp h1) (Int64.not_lt.mp h)
    simp [XT.cmpL, h2, ifCond.holds, Int64.lt_irrefl]
theorem tgtL {x y : Int64} (h : y < x) : ifCond.holds .gt (XT.cmpL x y) = true ∧ ifCond.holds .le (XT.cmpL x y) = false := by
  simp [XT.cmpL, h, ifCond.holds]
theorem fgtL {x y : Int64} (h : ¬ y < x) : ifCond.holds .gt (XT.cmpL x y) = false ∧ ifCond.holds .le (XT.cmpL x y) = true := by
  by_cases h2 : x = y <;> simp [XT.cmpL, h, h2, ifCond.holds, Int64.lt_irrefl]
theorem teqL {x y : Int64} (h : x = y) : ifCond.holds .eq (XT.cmpL x y) = true ∧ ifCond.holds .ne (XT.cmpL x y) = false := by
  subst h; simp [XT.cmpL, Int64.lt_irrefl, ifCond.holds]
theorem feqL {x y : Int64} (h : ¬ x = y) : ifCond.holds .eq (XT.cmpL x y) = false ∧ ifCond.holds .ne (XT.cmpL x y) = true := by
  by_cases h1 : y < x <;> simp [XT.cmpL, h, h1, ifCond.holds]
end Own
end Jvm.RoadKit
namespace Jvm.Pilot.@@N@@
open Jvm Jvm.ClassFile Sem Op Lib Jvm.Free Jvm.Stand Jvm.LawKit Jvm.RoadKit Bundle Jvm.Pilot.@@N@@.Jvm.D
theorem d1_0 : decode method_2_code 0 = .ok (.iload_n 0, 1) := by decide +kernel
theorem d1_1 : decode method_2_code 1 = .ok (.ifCond .ne 7, 3) := by decide +kernel
theorem d1_4 : decode method_2_code 4 = .ok (.getstatic 7, 3) := by decide +kernel
theorem d1_7 : decode method_2_code 7 = .ok (.areturn, 1) := by decide +kernel
theorem pd_0 : parseMethodDescriptor "(I)Lcom/example/interleaved_tables/interleavedtables/types/Type;" = some ⟨[.int], some (.object "com/example/interleaved_tables/interleavedtables/types/Type")⟩ := by decide +kernel
theorem pd_1 : parseMethodDescriptor "(Lcom/example/interleaved_tables/interleavedtables/types/Type;)Z" = some ⟨[(.object "com/example/interleaved_tables/interleavedtables/types/Type")], some .boolean⟩ := by decide +kernel
theorem pn_1 : plainName "com/example/interleaved_tables/interleavedtables/types/TypeConvertsToPinLaw" = true := by first | (simp [plainName, overriddenIn]; done) | decide +kernel
theorem ef_1 (m : MethodId) (p0 : Int32) : entryFrame m #[(.int p0)] 1 = mkF m 0 #[.val (.int p0)] [] := by first | (simp [entryFrame, mkF, argsToLocals, Value.category]; done) | rfl
abbrev Q1_0 (Z : State) (p0 : Int32) (w0 : Addr) (h0 : Heap) (n0 : Nat) (v : Option Value) (h : Heap) (L : List Loc) : Prop := v = some (.ref w0) ∧ Fr n0 L ∧ h = h0
set_option maxRecDepth 65536 in
set_option maxHeartbeats 40000000 in
theorem rm1_0 (l : Launch) (Z : State) (a0 : Array Value) (hw : ∀ d ∈ tables_1, d.before a0 Z = true) (ws : List Jvm.Cond) (p0 : Int32) (w0 : Addr) (h0 : Heap) (n0 : Nat) (Z0 : n0 ≤ h0.size) (hp : p0 = (0 : Int32)) (S_INT64 : Sta Z h0 "com/example/interleaved_tables/interleavedtables/types/Type" "INT64" "Lcom/example/interleaved_tables/interleavedtables/types/Type;" (.ref w0)) :
    MetFree l (⟨"com/example/interleaved_tables/interleavedtables/types/TypeConvertsToPinLaw", "pick", "(I)Lcom/example/interleaved_tables/interleavedtables/types/Type;"⟩ : MethodName) (head1 (Jvm.Cond.code (⟨"com/example/interleaved_tables/interleavedtables/types/TypeConvertsToPinLaw", "pick", "(I)Lcom/example/interleaved_tables/interleavedtables/types/Type;"⟩ : MethodName) method_2_code 1 (some (.object "com/example/interleaved_tables/interleavedtables/types/Type")) :: ws) ({ frames := 0, cells := 0, slots := 0, locals := 0 } : Room)) (fun a U => a = #[(.int p0)] ∧ Z.Warmed39 U.vm ∧ U.heap = h0) (fun _ _ _ _ _ => True) (fun _ U o U' => ∃ v L, o = .returned v ∧ Q1_0 Z p0 w0 h0 n0 v U'.heap L ∧ FrameEnd U o U' L 0 0) := by
  refine MetFree.of_bodySF (plainFor_of_name pn_1) hisR ?_
  intro p ev s m args below meth c s₁ Bd hml0 hP hK
  obtain ⟨rfl, hZ, hh⟩ := hP
  have hx := Bd.exec
  have hby := Bd.bytes
  have hml : c.maxLocals = 1 := hml0
  have hown : s.vm.findClass "com/example/interleaved_tables/interleavedtables/types/TypeConvertsToPinLaw" = some m.cls := findClass_of_methodNamed Bd.named
  have hnm := (name_of_methodNamed Bd.named Bd.method).1
  have X0 : Stand p l ev ({ frames := 0, cells := 0, slots := 0, locals := 0 } : Room) s m #[(.int p0)] below meth c s₁ [] 0 0 := Stand.of_body Bd
  have eh0 : s₁.heap = h0 := by rw [← hh, Bd.state]; rfl
  have N0 := Fr.nil n0
  have Zs := Z0
  show Gol p ev below (FrameEnd s) (Q1_0 Z p0 w0 h0 n0) 0 0 (s₁.setTop (entryFrame m #[(.int p0)] 1))
  rw [ef_1]
  subst hp
  show GolF _ _ _ _ _ _ _ s₁ m 0 #[.val (.int (0 : Int32))] []
  refine Gol.iloadN X0 hx hby d1_0 (pc' := 1) rfl rfl ?_
  refine Gol.ifNo X0 hx hby d1_1 (pc' := 4) rfl ((if0 _ _).trans (teq (by decide : (0 : Int32) = (0 : Int32))).2) ?_
  refine Gol.getS X0 hx hby hZ hown (host := "") (Or.inl (hw _ (List.mem_of_getElem? (i := 4) rfl))) Via.refl eh0 S_INT64 d1_4 (pc' := 7) rfl ?_
  intro T1 X1 e1
  exact Gol.retA X1 hx hby Bd.returns rfl rfl Bd.notSynchronized d1_7 e1 ⟨rfl, N0, rfl⟩ (by decide) (by decide)
theorem d1_8 : decode method_2_code 8 = .ok (.iload_n 0, 1) := by decide +kernel
theorem d1_9 : decode method_2_code 9 = .ok (.iconst 1, 1) := by decide +kernel
theorem d1_10 : decode method_2_code 10 = .ok (.if_icmp .ne 7, 3) := by decide +kernel
theorem d1_13 : decode method_2_code 13 = .ok (.getstatic 13, 3) := by decide +kernel
theorem d1_16 : decode method_2_code 16 = .ok (.areturn, 1) := by decide +kernel
abbrev Q1_1 (Z : State) (p0 : Int32) (w0 : Addr) (h0 : Heap) (n0 : Nat) (v : Option Value) (h : Heap) (L : List Loc) : Prop := v = some (.ref w0) ∧ Fr n0 L ∧ h = h0
set_option maxRecDepth 65536 in
set_option maxHeartbeats 40000000 in
theorem rm1_1 (l : Launch) (Z : State) (a0 : Array Value) (hw : ∀ d ∈ tables_1, d.before a0 Z = true) (ws : List Jvm.Cond) (p0 : Int32) (w0 : Addr) (h0 : Heap) (n0 : Nat) (Z0 : n0 ≤ h0.size) (hp : p0 = (1 : Int32)) (S_STRING : Sta Z h0 "com/example/interleaved_tables/interleavedtables/types/Type" "STRING" "Lcom/example/interleaved_tables/interleavedtables/types/Type;" (.ref w0)) :
    MetFree l (⟨"com/example/interleaved_tables/interleavedtables/types/TypeConvertsToPinLaw", "pick", "(I)Lcom/example/interleaved_tables/interleavedtables/types/Type;"⟩ : MethodName) (head1 (Jvm.Cond.code (⟨"com/example/interleaved_tables/interleavedtables/types/TypeConvertsToPinLaw", "pick", "(I)Lcom/example/interleaved_tables/interleavedtables/types/Type;"⟩ : MethodName) method_2_code 1 (some (.object "com/example/interleaved_tables/interleavedtables/types/Type")) :: ws) ({ frames := 0, cells := 0, slots := 0, locals := 0 } : Room)) (fun a U => a = #[(.int p0)] ∧ Z.Warmed39 U.vm ∧ U.heap = h0) (fun _ _ _ _ _ => True) (fun _ U o U' => ∃ v L, o = .returned v ∧ Q1_1 Z p0 w0 h0 n0 v U'.heap L ∧ FrameEnd U o U' L 0 0) := by
  refine MetFree.of_bodySF (plainFor_of_name pn_1) hisR ?_
  intro p ev s m args below meth c s₁ Bd hml0 hP hK
  obtain ⟨rfl, hZ, hh⟩ := hP
  have hx := Bd.exec
  have hby := Bd.bytes
  have hml : c.maxLocals = 1 := hml0
  have hown : s.vm.findClass "com/example/interleaved_tables/interleavedtables/types/TypeConvertsToPinLaw" = some m.cls := findClass_of_methodNamed Bd.named
  have hnm := (name_of_methodNamed Bd.named Bd.method).1
  have X0 : Stand p l ev ({ frames := 0, cells := 0, slots := 0, locals := 0 } : Room) s m #[(.int p0)] below meth c s₁ [] 0 0 := Stand.of_body Bd
  have eh0 : s₁.heap = h0 := by rw [← hh, Bd.state]; rfl
  have N0 := Fr.nil n0
  have Zs := Z0
  show Gol p ev below (FrameEnd s) (Q1_1 Z p0 w0 h0 n0) 0 0 (s₁.setTop (entryFrame m #[(.int p0)] 1))
  rw [ef_1]
  subst hp
  show GolF _ _ _ _ _ _ _ s₁ m 0 #[.val (.int (1 : Int32))] []
  refine Gol.iloadN X0 hx hby d1_0 (pc' := 1) rfl rfl ?_
  refine Gol.ifYes X0 hx hby d1_1 (pc' := 8) (by decide) ((if0 _ _).trans (feq (by decide : ¬ ((1 : Int32) = (0 : Int32)))).2) ?_
  refine Gol.iloadN X0 hx hby d1_8 (pc' := 9) rfl rfl ?_
  refine Gol.iconst X0 hx hby d1_9 (pc' := 10) rfl (z := (1 : Int32)) rfl ?_
  refine Gol.icmpNo X0 hx hby d1_10 (pc' := 13) rfl (teq (by decide : (1 : Int32) = (1 : Int32))).2 ?_
  refine Gol.getS X0 hx hby hZ hown (host := "") (Or.inl (hw _ (List.mem_of_getElem? (i := 20) rfl))) Via.refl eh0 S_STRING d1_13 (pc' := 16) rfl ?_
  intro T1 X1 e1
  exact Gol.retA X1 hx hby Bd.returns rfl rfl Bd.notSynchronized d1_16 e1 ⟨rfl, N0, rfl⟩ (by decide) (by decide)
theorem d1_17 : decode method_2_code 17 = .ok (.iload_n 0, 1) := by decide +kernel
theorem d1_18 : decode method_2_code 18 = .ok (.iconst 2, 1) := by decide +kernel
theorem d1_19 : decode method_2_code 19 = .ok (.if_icmp .ne 7, 3) := by decide +kernel
theorem d1_22 : decode method_2_code 22 = .ok (.getstatic 16, 3) := by decide +kernel
theorem d1_25 : decode method_2_code 25 = .ok (.areturn, 1) := by decide +kernel
abbrev Q1_2 (Z : State) (p0 : Int32) (w0 : Addr) (h0 : Heap) (n0 : Nat) (v : Option Value) (h : Heap) (L : List Loc) : Prop := v = some (.ref w0) ∧ Fr n0 L ∧ h = h0
set_option maxRecDepth 65536 in
set_option maxHeartbeats 40000000 in
theorem rm1_2 (l : Launch) (Z : State) (a0 : Array Value) (hw : ∀ d ∈ tables_1, d.before a0 Z = true) (ws : List Jvm.Cond) (p0 : Int32) (w0 : Addr) (h0 : Heap) (n0 : Nat) (Z0 : n0 ≤ h0.size) (hp : p0 = (2 : Int32)) (S_BYTES : Sta Z h0 "com/example/interleaved_tables/interleavedtables/types/Type" "BYTES" "Lcom/example/interleaved_tables/interleavedtables/types/Type;" (.ref w0)) :
    MetFree l (⟨"com/example/interleaved_tables/interleavedtables/types/TypeConvertsToPinLaw", "pick", "(I)Lcom/example/interleaved_tables/interleavedtables/types/Type;"⟩ : MethodName) (head1 (Jvm.Cond.code (⟨"com/example/interleaved_tables/interleavedtables/types/TypeConvertsToPinLaw", "pick", "(I)Lcom/example/interleaved_tables/interleavedtables/types/Type;"⟩ : MethodName) method_2_code 1 (some (.object "com/example/interleaved_tables/interleavedtables/types/Type")) :: ws) ({ frames := 0, cells := 0, slots := 0, locals := 0 } : Room)) (fun a U => a = #[(.int p0)] ∧ Z.Warmed39 U.vm ∧ U.heap = h0) (fun _ _ _ _ _ => True) (fun _ U o U' => ∃ v L, o = .returned v ∧ Q1_2 Z p0 w0 h0 n0 v U'.heap L ∧ FrameEnd U o U' L 0 0) := by
  refine MetFree.of_bodySF (plainFor_of_name pn_1) hisR ?_
  intro p ev s m args below meth c s₁ Bd hml0 hP hK
  obtain ⟨rfl, hZ, hh⟩ := hP
  have hx := Bd.exec
  have hby := Bd.bytes
  have hml : c.maxLocals = 1 := hml0
  have hown : s.vm.findClass "com/example/interleaved_tables/interleavedtables/types/TypeConvertsToPinLaw" = some m.cls := findClass_of_methodNamed Bd.named
  have hnm := (name_of_methodNamed Bd.named Bd.method).1
  have X0 : Stand p l ev ({ frames := 0, cells := 0, slots := 0, locals := 0 } : Room) s m #[(.int p0)] below meth c s₁ [] 0 0 := Stand.of_body Bd
  have eh0 : s₁.heap = h0 := by rw [← hh, Bd.state]; rfl
  have N0 := Fr.nil n0
  have Zs := Z0
  show Gol p ev below (FrameEnd s) (Q1_2 Z p0 w0 h0 n0) 0 0 (s₁.setTop (entryFrame m #[(.int p0)] 1))
  rw [ef_1]
  subst hp
  show GolF _ _ _ _ _ _ _ s₁ m 0 #[.val (.int (2 : Int32))] []
  refine Gol.iloadN X0 hx hby d1_0 (pc' := 1) rfl rfl ?_
  refine Gol.ifYes X0 hx hby d1_1 (pc' := 8) (by decide) ((if0 _ _).trans (feq (by decide : ¬ ((2 : Int32) = (0 : Int32)))).2) ?_
  refine Gol.iloadN X0 hx hby d1_8 (pc' := 9) rfl rfl ?_
  refine Gol.iconst X0 hx hby d1_9 (pc' := 10) rfl (z := (1 : Int32)) rfl ?_
  refine Gol.icmpYes X0 hx hby d1_10 (pc' := 17) (by decide) (feq (by decide : ¬ ((2 : Int32) = (1 : Int32)))).2 ?_
  refine Gol.iloadN X0 hx hby d1_17 (pc' := 18) rfl rfl ?_
  refine Gol.iconst X0 hx hby d1_18 (pc' := 19) rfl (z := (2 : Int32)) rfl ?_
  refine Gol.icmpNo X0 hx hby d1_19 (pc' := 22) rfl (teq (by decide : (2 : Int32) = (2 : Int32))).2 ?_
  refine Gol.getS X0 hx hby hZ hown (host := "") (Or.inl (hw _ (List.mem_of_getElem? (i := 19) rfl))) Via.refl eh0 S_BYTES d1_22 (pc' := 25) rfl ?_
  intro T1 X1 e1
  exact Gol.retA X1 hx hby Bd.returns rfl rfl Bd.notSynchronized d1_25 e1 ⟨rfl, N0, rfl⟩ (by decide) (by decide)
theorem d1_26 : decode method_2_code 26 = .ok (.getstatic 19, 3) := by decide +kernel
theorem d1_29 : decode method_2_code 29 = .ok (.areturn, 1) := by decide +kernel
abbrev Q1_3 (Z : State) (p0 : Int32) (w0 : Addr) (h0 : Heap) (n0 : Nat) (v : Option Value) (h : Heap) (L : List Loc) : Prop := v = some (.ref w0) ∧ Fr n0 L ∧ h = h0
set_option maxRecDepth 65536 in
set_option maxHeartbeats 40000000 in
theorem rm1_3 (l : Launch) (Z : State) (a0 : Array Value) (hw : ∀ d ∈ tables_1, d.before a0 Z = true) (ws : List Jvm.Cond) (p0 : Int32) (w0 : Addr) (h0 : Heap) (n0 : Nat) (Z0 : n0 ≤ h0.size) (hp : p0 = (3 : Int32)) (S_TIMESTAMP : Sta Z h0 "com/example/interleaved_tables/interleavedtables/types/Type" "TIMESTAMP" "Lcom/example/interleaved_tables/interleavedtables/types/Type;" (.ref w0)) :
    MetFree l (⟨"com/example/interleaved_tables/interleavedtables/types/TypeConvertsToPinLaw", "pick", "(I)Lcom/example/interleaved_tables/interleavedtables/types/Type;"⟩ : MethodName) (head1 (Jvm.Cond.code (⟨"com/example/interleaved_tables/interleavedtables/types/TypeConvertsToPinLaw", "pick", "(I)Lcom/example/interleaved_tables/interleavedtables/types/Type;"⟩ : MethodName) method_2_code 1 (some (.object "com/example/interleaved_tables/interleavedtables/types/Type")) :: ws) ({ frames := 0, cells := 0, slots := 0, locals := 0 } : Room)) (fun a U => a = #[(.int p0)] ∧ Z.Warmed39 U.vm ∧ U.heap = h0) (fun _ _ _ _ _ => True) (fun _ U o U' => ∃ v L, o = .returned v ∧ Q1_3 Z p0 w0 h0 n0 v U'.heap L ∧ FrameEnd U o U' L 0 0) := by
  refine MetFree.of_bodySF (plainFor_of_name pn_1) hisR ?_
  intro p ev s m args below meth c s₁ Bd hml0 hP hK
  obtain ⟨rfl, hZ, hh⟩ := hP
  have hx := Bd.exec
  have hby := Bd.bytes
  have hml : c.maxLocals = 1 := hml0
  have hown : s.vm.findClass "com/example/interleaved_tables/interleavedtables/types/TypeConvertsToPinLaw" = some m.cls := findClass_of_methodNamed Bd.named
  have hnm := (name_of_methodNamed Bd.named Bd.method).1
  have X0 : Stand p l ev ({ frames := 0, cells := 0, slots := 0, locals := 0 } : Room) s m #[(.int p0)] below meth c s₁ [] 0 0 := Stand.of_body Bd
  have eh0 : s₁.heap = h0 := by rw [← hh, Bd.state]; rfl
  have N0 := Fr.nil n0
  have Zs := Z0
  show Gol p ev below (FrameEnd s) (Q1_3 Z p0 w0 h0 n0) 0 0 (s₁.setTop (entryFrame m #[(.int p0)] 1))
  rw [ef_1]
  subst hp
  show GolF _ _ _ _ _ _ _ s₁ m 0 #[.val (.int (3 : Int32))] []
  refine Gol.iloadN X0 hx hby d1_0 (pc' := 1) rfl rfl ?_
  refine Gol.ifYes X0 hx hby d1_1 (pc' := 8) (by decide) ((if0 _ _).trans (feq (by decide : ¬ ((3 : Int32) = (0 : Int32)))).2) ?_
  refine Gol.iloadN X0 hx hby d1_8 (pc' := 9) rfl rfl ?_
  refine Gol.iconst X0 hx hby d1_9 (pc' := 10) rfl (z := (1 : Int32)) rfl ?_
  refine Gol.icmpYes X0 hx hby d1_10 (pc' := 17) (by decide) (feq (by decide : ¬ ((3 : Int32) = (1 : Int32)))).2 ?_
  refine Gol.iloadN X0 hx hby d1_17 (pc' := 18) rfl rfl ?_
  refine Gol.iconst X0 hx hby d1_18 (pc' := 19) rfl (z := (2 : Int32)) rfl ?_
  refine Gol.icmpYes X0 hx hby d1_19 (pc' := 26) (by decide) (feq (by decide : ¬ ((3 : Int32) = (2 : Int32)))).2 ?_
  refine Gol.getS X0 hx hby hZ hown (host := "") (Or.inl (hw _ (List.mem_of_getElem? (i := 7) rfl))) Via.refl eh0 S_TIMESTAMP d1_26 (pc' := 29) rfl ?_
  intro T1 X1 e1
  exact Gol.retA X1 hx hby Bd.returns rfl rfl Bd.notSynchronized d1_29 e1 ⟨rfl, N0, rfl⟩ (by decide) (by decide)
theorem d2_0 : decode prog_83_method_12_code 0 = .ok (.aload_n 1, 1) := by decide +kernel
theorem d2_1 : decode prog_83_method_12_code 1 = .ok (.aload_n 0, 1) := by decide +kernel
theorem d2_2 : decode prog_83_method_12_code 2 = .ok (.if_acmp .eq 31, 3) := by decide +kernel
theorem d2_5 : decode prog_83_method_12_code 5 = .ok (.aload_n 0, 1) := by decide +kernel
theorem d2_6 : decode prog_83_method_12_code 6 = .ok (.getstatic 7, 3) := by decide +kernel
theorem d2_9 : decode prog_83_method_12_code 9 = .ok (.if_acmp .ne 10, 3) := by decide +kernel
theorem d2_12 : decode prog_83_method_12_code 12 = .ok (.aload_n 1, 1) := by decide +kernel
theorem d2_13 : decode prog_83_method_12_code 13 = .ok (.getstatic 10, 3) := by decide +kernel
theorem d2_16 : decode prog_83_method_12_code 16 = .ok (.if_acmp .eq 17, 3) := by decide +kernel
theorem d2_19 : decode prog_83_method_12_code 19 = .ok (.aload_n 0, 1) := by decide +kernel
theorem d2_20 : decode prog_83_method_12_code 20 = .ok (.getstatic 10, 3) := by decide +kernel
theorem d2_23 : decode prog_83_method_12_code 23 = .ok (.if_acmp .ne 14, 3) := by decide +kernel
theorem d2_26 : decode prog_83_method_12_code 26 = .ok (.aload_n 1, 1) := by decide +kernel
theorem d2_27 : decode prog_83_method_12_code 27 = .ok (.getstatic 7, 3) := by decide +kernel
theorem d2_30 : decode prog_83_method_12_code 30 = .ok (.if_acmp .ne 7, 3) := by decide +kernel
theorem d2_33 : decode prog_83_method_12_code 33 = .ok (.iconst 1, 1) := by decide +kernel
theorem d2_34 : decode prog_83_method_12_code 34 = .ok (.goto 4, 3) := by decide +kernel
theorem d2_37 : decode prog_83_method_12_code 37 = .ok (.iconst 0, 1) := by decide +kernel
theorem d2_38 : decode prog_83_method_12_code 38 = .ok (.ireturn, 1) := by decide +kernel
theorem pn_2 : plainName "com/example/interleaved_tables/interleavedtables/types/Type" = true := by first | (simp [plainName, overriddenIn]; done) | decide +kernel
theorem ef_2 (m : MethodId) (r0 : Addr) (r1 : Addr) : entryFrame m #[(.ref r0), (.ref r1)] 2 = mkF m 0 #[.val (.ref r0), .val (.ref r1)] [] := by first | (simp [entryFrame, mkF, argsToLocals, Value.category]; done) | rfl
def f2 (r0 : Addr) (r1 : Addr) (wS : Addr) (wB : Addr) : Int32 :=
  if r1 = r0 then
    (1 : Int32)
  else
    if r0 = wS then
      if r1 = wB then
        (1 : Int32)
      else
        if r0 = wB then
          if r1 = wS then
            (1 : Int32)
          else
            (0 : Int32)
        else
          (0 : Int32)
    else
      if r0 = wB then
        if r1 = wS then
          (1 : Int32)
        else
          (0 : Int32)
      else
        (0 : Int32)
abbrev Q2 (Z : State) (r0 : Addr) (r1 : Addr) (wS : Addr) (wB : Addr) (h0 : Heap) (n0 : Nat) (v : Option Value) (h : Heap) (L : List Loc) : Prop := v = some (.int (f2 r0 r1 wS wB)) ∧ Fr n0 L ∧ h = h0
set_option maxRecDepth 65536 in
set_option maxHeartbeats 40000000 in
theorem rm2 (l : Launch) (Z : State) (a0 : Array Value) (hw : ∀ d ∈ tables_1, d.before a0 Z = true) (ws : List Jvm.Cond) (r0 : Addr) (r1 : Addr) (wS : Addr) (wB : Addr) (h0 : Heap) (n0 : Nat) (Z0 : n0 ≤ h0.size) (S_STRING : Sta Z h0 "com/example/interleaved_tables/interleavedtables/types/Type" "STRING" "Lcom/example/interleaved_tables/interleavedtables/types/Type;" (.ref wS)) (S_BYTES : Sta Z h0 "com/example/interleaved_tables/interleavedtables/types/Type" "BYTES" "Lcom/example/interleaved_tables/interleavedtables/types/Type;" (.ref wB)) :
    MetFree l (⟨"com/example/interleaved_tables/interleavedtables/types/Type", "convertsTo", "(Lcom/example/interleaved_tables/interleavedtables/types/Type;)Z"⟩ : MethodName) (head1 (Jvm.Cond.code (⟨"com/example/interleaved_tables/interleavedtables/types/Type", "convertsTo", "(Lcom/example/interleaved_tables/interleavedtables/types/Type;)Z"⟩ : MethodName) prog_83_method_12_code 2 (some .boolean) :: ws) ({ frames := 0, cells := 0, slots := 0, locals := 0 } : Room)) (fun a U => a = #[(.ref r0), (.ref r1)] ∧ Z.Warmed39 U.vm ∧ U.heap = h0) (fun _ _ _ _ _ => True) (fun _ U o U' => ∃ v L, o = .returned v ∧ Q2 Z r0 r1 wS wB h0 n0 v U'.heap L ∧ FrameEnd U o U' L 0 0) := by
  refine MetFree.of_bodySF (plainFor_of_name pn_2) hisR ?_
  intro p ev s m args below meth c s₁ Bd hml0 hP hK
  obtain ⟨rfl, hZ, hh⟩ := hP
  have hx := Bd.exec
  have hby := Bd.bytes
  have hml : c.maxLocals = 2 := hml0
  have hown : s.vm.findClass "com/example/interleaved_tables/interleavedtables/types/Type" = some m.cls := findClass_of_methodNamed Bd.named
  have hnm := (name_of_methodNamed Bd.named Bd.method).1
  have X0 : Stand p l ev ({ frames := 0, cells := 0, slots := 0, locals := 0 } : Room) s m #[(.ref r0), (.ref r1)] below meth c s₁ [] 0 0 := Stand.of_body Bd
  have eh0 : s₁.heap = h0 := by rw [← hh, Bd.state]; rfl
  have N0 := Fr.nil n0
  have Zs := Z0
  show Gol p ev below (FrameEnd s) (Q2 Z r0 r1 wS wB h0 n0) 0 0 (s₁.setTop (entryFrame m #[(.ref r0), (.ref r1)] 2))
  rw [ef_2]
  show GolF _ _ _ _ _ _ _ s₁ m 0 #[.val (.ref r0), .val (.ref r1)] []
  refine Gol.aloadN X0 hx hby d2_0 (pc' := 1) rfl rfl rfl ?_
  refine Gol.aloadN X0 hx hby d2_1 (pc' := 2) rfl rfl rfl ?_
  by_cases ha2_1 : r1 = r0
  · skip
    refine Gol.acmp X0 hx hby (pc' := 33) true d2_2 rfl rfl (decide_eq_true (congrArg Value.ref ha2_1)) (by decide) (by decide) ?_
    refine Gol.iconst X0 hx hby d2_33 (pc' := 34) rfl (z := (1 : Int32)) rfl ?_
    refine Gol.goto X0 hx hby d2_34 (pc' := 38) (by decide) ?_
    have hv2 : f2 r0 r1 wS wB = (1 : Int32) := by
      unfold f2
      rw [if_pos ha2_1]
    exact Gol.retN X0 hx hby (t := .boolean) Bd.returns (by simp) Bd.notSynchronized d2_38 eh0 ⟨congrArg (fun z => some (Value.int z)) (hv2.symm), N0, rfl⟩ (by decide) (by decide)
  · skip
    refine Gol.acmp X0 hx hby (pc' := 5) false d2_2 rfl rfl (decide_eq_false fun q => ha2_1 (Value.ref.inj q)) (by decide) (by decide) ?_
    refine Gol.aloadN X0 hx hby d2_5 (pc' := 6) rfl rfl rfl ?_
    refine Gol.getS X0 hx hby hZ hown (host := "") (Or.inl (hw _ (List.mem_of_getElem? (i := 15) rfl))) Via.refl eh0 S_STRING d2_6 (pc' := 9) rfl ?_
    intro T3 X3 e3
    by_cases ha9_4 : r0 = wS
    · skip
      refine Gol.acmp X3 hx hby (pc' := 12) true d2_9 rfl rfl (decide_eq_true (congrArg Value.ref ha9_4)) (by decide) (by decide) ?_
      refine Gol.aloadN X3 hx hby d2_12 (pc' := 13) rfl rfl rfl ?_
      refine Gol.getS X3 hx hby hZ hown (host := "") (Or.inl (hw _ (List.mem_of_getElem? (i := 17) rfl))) Via.refl e3 S_BYTES d2_13 (pc' := 16) rfl ?_
      intro T5 X5 e5
      by_cases ha16_6 : r1 = wB
      · skip
        refine Gol.acmp X5 hx hby (pc' := 33) true d2_16 rfl rfl (decide_eq_true (congrArg Value.ref ha16_6)) (by decide) (by decide) ?_
        refine Gol.iconst X5 hx hby d2_33 (pc' := 34) rfl (z := (1 : Int32)) rfl ?_
        refine Gol.goto X5 hx hby d2_34 (pc' := 38) (by decide) ?_
        have hv7 : f2 r0 r1 wS wB = (1 : Int32) := by
          unfold f2
          rw [if_neg ha2_1, if_pos ha9_4, if_pos ha16_6]
        exact Gol.retN X5 hx hby (t := .boolean) Bd.returns (by simp) Bd.notSynchronized d2_38 e5 ⟨congrArg (fun z => some (Value.int z)) (hv7.symm), N0, rfl⟩ (by decide) (by decide)
      · skip
        refine Gol.acmp X5 hx hby (pc' := 19) false d2_16 rfl rfl (decide_eq_false fun q => ha16_6 (Value.ref.inj q)) (by decide) (by decide) ?_
        refine Gol.aloadN X5 hx hby d2_19 (pc' := 20) rfl rfl rfl ?_
        refine Gol.getS X5 hx hby hZ hown (host := "") (Or.inl (hw _ (List.mem_of_getElem? (i := 17) rfl))) Via.refl e5 S_BYTES d2_20 (pc' := 23) rfl ?_
        intro T8 X8 e8
        by_cases ha23_9 : r0 = wB
        · skip
          refine Gol.acmp X8 hx hby (pc' := 26) true d2_23 rfl rfl (decide_eq_true (congrArg Value.ref ha23_9)) (by decide) (by decide) ?_
          refine Gol.aloadN X8 hx hby d2_26 (pc' := 27) rfl rfl rfl ?_
          refine Gol.getS X8 hx hby hZ hown (host := "") (Or.inl (hw _ (List.mem_of_getElem? (i := 15) rfl))) Via.refl e8 S_STRING d2_27 (pc' := 30) rfl ?_
          intro T10 X10 e10
          by_cases ha30_11 : r1 = wS
          · skip
            refine Gol.acmp X10 hx hby (pc' := 33) true d2_30 rfl rfl (decide_eq_true (congrArg Value.ref ha30_11)) (by decide) (by decide) ?_
            refine Gol.iconst X10 hx hby d2_33 (pc' := 34) rfl (z := (1 : Int32)) rfl ?_
            refine Gol.goto X10 hx hby d2_34 (pc' := 38) (by decide) ?_
            have hv12 : f2 r0 r1 wS wB = (1 : Int32) := by
              unfold f2
              rw [if_neg ha2_1, if_pos ha9_4, if_neg ha16_6, if_pos ha23_9, if_pos ha30_11]
            exact Gol.retN X10 hx hby (t := .boolean) Bd.returns (by simp) Bd.notSynchronized d2_38 e10 ⟨congrArg (fun z => some (Value.int z)) (hv12.symm), N0, rfl⟩ (by decide) (by decide)
          · skip
            refine Gol.acmp X10 hx hby (pc' := 37) false d2_30 rfl rfl (decide_eq_false fun q => ha30_11 (Value.ref.inj q)) (by decide) (by decide) ?_
            refine Gol.iconst X10 hx hby d2_37 (pc' := 38) rfl (z := (0 : Int32)) rfl ?_
            have hv13 : f2 r0 r1 wS wB = (0 : Int32) := by
              unfold f2
              rw [if_neg ha2_1, if_pos ha9_4, if_neg ha16_6, if_pos ha23_9, if_neg ha30_11]
            exact Gol.retN X10 hx hby (t := .boolean) Bd.returns (by simp) Bd.notSynchronized d2_38 e10 ⟨congrArg (fun z => some (Value.int z)) (hv13.symm), N0, rfl⟩ (by decide) (by decide)
        · skip
          refine Gol.acmp X8 hx hby (pc' := 37) false d2_23 rfl rfl (decide_eq_false fun q => ha23_9 (Value.ref.inj q)) (by decide) (by decide) ?_
          refine Gol.iconst X8 hx hby d2_37 (pc' := 38) rfl (z := (0 : Int32)) rfl ?_
          have hv14 : f2 r0 r1 wS wB = (0 : Int32) := by
            unfold f2
            rw [if_neg ha2_1, if_pos ha9_4, if_neg ha16_6, if_neg ha23_9]
          exact Gol.retN X8 hx hby (t := .boolean) Bd.returns (by simp) Bd.notSynchronized d2_38 e8 ⟨congrArg (fun z => some (Value.int z)) (hv14.symm), N0, rfl⟩ (by decide) (by decide)
    · skip
      refine Gol.acmp X3 hx hby (pc' := 19) false d2_9 rfl rfl (decide_eq_false fun q => ha9_4 (Value.ref.inj q)) (by decide) (by decide) ?_
      refine Gol.aloadN X3 hx hby d2_19 (pc' := 20) rfl rfl rfl ?_
      refine Gol.getS X3 hx hby hZ hown (host := "") (Or.inl (hw _ (List.mem_of_getElem? (i := 17) rfl))) Via.refl e3 S_BYTES d2_20 (pc' := 23) rfl ?_
      intro T15 X15 e15
      by_cases ha23_16 : r0 = wB
      · skip
        refine Gol.acmp X15 hx hby (pc' := 26) true d2_23 rfl rfl (decide_eq_true (congrArg Value.ref ha23_16)) (by decide) (by decide) ?_
        refine Gol.aloadN X15 hx hby d2_26 (pc' := 27) rfl rfl rfl ?_
        refine Gol.getS X15 hx hby hZ hown (host := "") (Or.inl (hw _ (List.mem_of_getElem? (i := 15) rfl))) Via.refl e15 S_STRING d2_27 (pc' := 30) rfl ?_
        intro T17 X17 e17
        by_cases ha30_18 : r1 = wS
        · skip
          refine Gol.acmp X17 hx hby (pc' := 33) true d2_30 rfl rfl (decide_eq_true (congrArg Value.ref ha30_18)) (by decide) (by decide) ?_
          refine Gol.iconst X17 hx hby d2_33 (pc' := 34) rfl (z := (1 : Int32)) rfl ?_
          refine Gol.goto X17 hx hby d2_34 (pc' := 38) (by decide) ?_
          have hv19 : f2 r0 r1 wS wB = (1 : Int32) := by
            unfold f2
            rw [if_neg ha2_1, if_neg ha9_4, if_pos ha23_16, if_pos ha30_18]
          exact Gol.retN X17 hx hby (t := .boolean) Bd.returns (by simp) Bd.notSynchronized d2_38 e17 ⟨congrArg (fun z => some (Value.int z)) (hv19.symm), N0, rfl⟩ (by decide) (by decide)
        · skip
          refine Gol.acmp X17 hx hby (pc' := 37) false d2_30 rfl rfl (decide_eq_false fun q => ha30_18 (Value.ref.inj q)) (by decide) (by decide) ?_
          refine Gol.iconst X17 hx hby d2_37 (pc' := 38) rfl (z := (0 : Int32)) rfl ?_
          have hv20 : f2 r0 r1 wS wB = (0 : Int32) := by
            unfold f2
            rw [if_neg ha2_1, if_neg ha9_4, if_pos ha23_16, if_neg ha30_18]
          exact Gol.retN X17 hx hby (t := .boolean) Bd.returns (by simp) Bd.notSynchronized d2_38 e17 ⟨congrArg (fun z => some (Value.int z)) (hv20.symm), N0, rfl⟩ (by decide) (by decide)
      · skip
        refine Gol.acmp X15 hx hby (pc' := 37) false d2_23 rfl rfl (decide_eq_false fun q => ha23_16 (Value.ref.inj q)) (by decide) (by decide) ?_
        refine Gol.iconst X15 hx hby d2_37 (pc' := 38) rfl (z := (0 : Int32)) rfl ?_
        have hv21 : f2 r0 r1 wS wB = (0 : Int32) := by
          unfold f2
          rw [if_neg ha2_1, if_neg ha9_4, if_neg ha23_16]
        exact Gol.retN X15 hx hby (t := .boolean) Bd.returns (by simp) Bd.notSynchronized d2_38 e15 ⟨congrArg (fun z => some (Value.int z)) (hv21.symm), N0, rfl⟩ (by decide) (by decide)
theorem own_mask3 (x : Int32) : (x &&& (3 : Int32)) = (0 : Int32) ∨ (x &&& (3 : Int32)) = (1 : Int32) ∨ (x &&& (3 : Int32)) = (2 : Int32) ∨ (x &&& (3 : Int32)) = (3 : Int32) := by
  have h : (x &&& 3).toBitVec.toNat ≤ 3 := by
    rw [Int32.toBitVec_and, BitVec.toNat_and]; exact Nat.and_le_right
  have q : ∀ k : Int32, (x &&& 3).toBitVec.toNat = k.toBitVec.toNat → (x &&& 3) = k := fun k hk => Int32.toBitVec_inj.mp (BitVec.eq_of_toNat_eq hk)
  have e : (x &&& 3).toBitVec.toNat = 0 ∨ (x &&& 3).toBitVec.toNat = 1 ∨ (x &&& 3).toBitVec.toNat = 2 ∨ (x &&& 3).toBitVec.toNat = 3 := by omega
  rcases e with e | e | e | e
  · exact Or.inl (q 0 e)
  · exact Or.inr (Or.inl (q 1 e))
  · exact Or.inr (Or.inr (Or.inl (q 2 e)))
  · exact Or.inr (Or.inr (Or.inr (q 3 e)))
theorem pn_0 : plainName "com/example/interleaved_tables/interleavedtables/types/TypeConvertsToPinLaw" = true := by first | (simp [plainName, overriddenIn]; done) | decide +kernel
theorem ef_0 (m : MethodId) (p0 : Int32) (p1 : Int32) : entryFrame m #[(.int p0), (.int p1)] maxLocals = mkF m 0 #[.val (.int p0), .val (.int p1), .unset, .unset, .unset, .unset, .unset] [] := by first | (simp [entryFrame, mkF, argsToLocals, Value.category, maxLocals]; done) | rfl
abbrev Q0 (Z : State) (p0 : Int32) (p1 : Int32) (wI : Addr) (wS : Addr) (wB : Addr) (wT : Addr) (h0 : Heap) (n0 : Nat) (v : Option Value) (h : Heap) (L : List Loc) : Prop := v = some (.int 1) ∧ Fr n0 L
set_option maxRecDepth 65536 in
set_option maxHeartbeats 40000000 in
theorem rm0 (l : Launch) (Z : State) (a0 : Array Value) (hw : ∀ d ∈ tables_1, d.before a0 Z = true) (ws : List Jvm.Cond) (p0 : Int32) (p1 : Int32) (wI : Addr) (wS : Addr) (wB : Addr) (wT : Addr) (h0 : Heap) (n0 : Nat) (Z0 : n0 ≤ h0.size) (S_INT64 : Sta Z h0 "com/example/interleaved_tables/interleavedtables/types/Type" "INT64" "Lcom/example/interleaved_tables/interleavedtables/types/Type;" (.ref wI)) (S_STRING : Sta Z h0 "com/example/interleaved_tables/interleavedtables/types/Type" "STRING" "Lcom/example/interleaved_tables/interleavedtables/types/Type;" (.ref wS)) (S_BYTES : Sta Z h0 "com/example/interleaved_tables/interleavedtables/types/Type" "BYTES" "Lcom/example/interleaved_tables/interleavedtables/types/Type;" (.ref wB)) (S_TIMESTAMP : Sta Z h0 "com/example/interleaved_tables/interleavedtables/types/Type" "TIMESTAMP" "Lcom/example/interleaved_tables/interleavedtables/types/Type;" (.ref wT)) (E_wI : Exa Z h0 wI "com/example/interleaved_tables/interleavedtables/types/Type$1") (E_wS : Exa Z h0 wS "com/example/interleaved_tables/interleavedtables/types/Type$2") (E_wB : Exa Z h0 wB "com/example/interleaved_tables/interleavedtables/types/Type$3") (E_wT : Exa Z h0 wT "com/example/interleaved_tables/interleavedtables/types/Type$4") :
    MetFree l x (head1 (Jvm.Cond.code x code maxLocals ret :: ws) room_1) (fun a U => a = #[(.int p0), (.int p1)] ∧ Z.Warmed39 U.vm ∧ U.heap = h0) (fun _ _ _ _ _ => True) (fun _ U o U' => ∃ v L, o = .returned v ∧ Q0 Z p0 p1 wI wS wB wT h0 n0 v U'.heap L ∧ FrameEnd U o U' L 0 0) := by
  refine MetFree.of_bodySF (plainFor_of_name pn_0) hisR ?_
  intro p ev s m args below meth c s₁ Bd hml0 hP hK
  obtain ⟨rfl, hZ, hh⟩ := hP
  have hx := Bd.exec
  have hby := Bd.bytes
  have hml : c.maxLocals = 7 := hml0
  have hown : s.vm.findClass "com/example/interleaved_tables/interleavedtables/types/TypeConvertsToPinLaw" = some m.cls := findClass_of_methodNamed Bd.named
  have hnm := (name_of_methodNamed Bd.named Bd.method).1
  have X0 : Stand p l ev room_1 s m #[(.int p0), (.int p1)] below meth c s₁ [] 0 0 := Stand.of_body Bd
  have eh0 : s₁.heap = h0 := by rw [← hh, Bd.state]; rfl
  have N0 := Fr.nil n0
  have Zs := Z0
  show Gol p ev below (FrameEnd s) (Q0 Z p0 p1 wI wS wB wT h0 n0) 0 0 (s₁.setTop (entryFrame m #[(.int p0), (.int p1)] maxLocals))
  rw [ef_0]
  have ne_wI_wS : wI ≠ wS := ne_exa E_wI E_wS (by decide)
  have ne_wI_wB : wI ≠ wB := ne_exa E_wI E_wB (by decide)
  have ne_wS_wB : wS ≠ wB := ne_exa E_wS E_wB (by decide)
  have ne_wI_wT : wI ≠ wT := ne_exa E_wI E_wT (by decide)
  have ne_wS_wT : wS ≠ wT := ne_exa E_wS E_wT (by decide)
  have ne_wB_wT : wB ≠ wT := ne_exa E_wB E_wT (by decide)
  show GolF _ _ _ _ _ _ _ s₁ m 0 #[.val (.int p0), .val (.int p1), .unset, .unset, .unset, .unset, .unset] []
  refine Gol.iloadN X0 hx hby at_0 (pc' := 1) rfl rfl ?_
  refine Gol.iconst X0 hx hby at_1 (pc' := 2) rfl (z := (3 : Int32)) rfl ?_
  refine Gol.iand X0 hx hby at_2 (pc' := 3) rfl rfl ?_
  rcases own_mask3 p0 with hk | hk | hk | hk
  · rw [hk]
    show GolF _ _ _ _ _ _ _ s₁ m 3 #[.val (.int p0), .val (.int p1), .unset, .unset, .unset, .unset, .unset] [(.int (0 : Int32))]
    refine Gol.istoreN X0 hx hby at_3 (pc' := 4) rfl (l' := #[.val (.int p0), .val (.int p1), .val (.int (0 : Int32)), .unset, .unset, .unset, .unset]) rfl ?_
    refine Gol.iloadN X0 hx hby at_4 (pc' := 5) rfl rfl ?_
    refine Gol.iconst X0 hx hby at_5 (pc' := 6) rfl (z := (3 : Int32)) rfl ?_
    refine Gol.iand X0 hx hby at_6 (pc' := 7) rfl rfl ?_
    rcases own_mask3 p1 with hl | hl | hl | hl
    · rw [hl]
      show GolF _ _ _ _ _ _ _ s₁ m 7 #[.val (.int p0), .val (.int p1), .val (.int (0 : Int32)), .unset, .unset, .unset, .unset] [(.int (0 : Int32))]
      refine Gol.istoreN X0 hx hby at_7 (pc' := 8) rfl (l' := #[.val (.int p0), .val (.int p1), .val (.int (0 : Int32)), .val (.int (0 : Int32)), .unset, .unset, .unset]) rfl ?_
      refine Gol.iloadN X0 hx hby at_8 (pc' := 9) rfl rfl ?_
      refine Gol.callS X0 hx hby hZ hown 0 [(.int (0 : Int32))] (hw _ (List.mem_of_getElem? (i := 0) rfl)) (hw _ (List.mem_of_getElem? (i := 1) rfl)) (hw _ (List.mem_of_getElem? (i := 2) rfl)) (hw _ (List.mem_of_getElem? (i := 3) rfl)) (by decide) (rm1_0 l Z a0 hw [] (0 : Int32) wI h0 n0 Zs rfl S_INT64) (by decide) (by decide) eh0 (by rw [hml]; rfl) (rest := []) (Nat.le_of_eq rfl) (by decide) (by decide) (lenOf pd_0 rfl) rfl at_9 (pc' := 12) rfl ?_
      intro T1 v1 L1 X1 hQ1
      obtain ⟨rfl, Nq1, eq1⟩ := hQ1
      have N1 := Fr.app N0 Nq1
      show GolF _ _ _ _ _ _ _ T1 m 12 #[.val (.int p0), .val (.int p1), .val (.int (0 : Int32)), .val (.int (0 : Int32)), .unset, .unset, .unset] [(.ref wI)]
      refine Gol.astore X1 hx hby at_12 (pc' := 14) rfl rfl (l' := #[.val (.int p0), .val (.int p1), .val (.int (0 : Int32)), .val (.int (0 : Int32)), .val (.ref wI), .unset, .unset]) rfl ?_
      refine Gol.iloadN X1 hx hby at_14 (pc' := 15) rfl rfl ?_
      refine Gol.callS X1 hx hby hZ hown 0 [(.int (0 : Int32))] (hw _ (List.mem_of_getElem? (i := 0) rfl)) (hw _ (List.mem_of_getElem? (i := 1) rfl)) (hw _ (List.mem_of_getElem? (i := 2) rfl)) (hw _ (List.mem_of_getElem? (i := 3) rfl)) (by decide) (rm1_0 l Z a0 hw [] (0 : Int32) wI h0 n0 Zs rfl S_INT64) (by decide) (by decide) eq1 (by rw [hml]; rfl) (rest := []) (Nat.le_of_eq rfl) (by decide) (by decide) (lenOf pd_0 rfl) rfl at_15 (pc' := 18) rfl ?_
      intro T2 v2 L2 X2 hQ2
      obtain ⟨rfl, Nq2, eq2⟩ := hQ2
      have N2 := Fr.app N1 Nq2
      show GolF _ _ _ _ _ _ _ T2 m 18 #[.val (.int p0), .val (.int p1), .val (.int (0 : Int32)), .val (.int (0 : Int32)), .val (.ref wI), .unset, .unset] [(.ref wI)]
      refine Gol.astore X2 hx hby at_18 (pc' := 20) rfl rfl (l' := #[.val (.int p0), .val (.int p1), .val (.int (0 : Int32)), .val (.int (0 : Int32)), .val (.ref wI), .val (.ref wI), .unset]) rfl ?_
      refine Gol.ldcInt X2 hx hby hZ hown at_20 (pc' := 22) rfl (hw _ (List.mem_of_getElem? (i := 9) rfl)) ?_
      refine Gol.iloadN X2 hx hby at_22 (pc' := 23) rfl rfl ?_
      refine Gol.iconst X2 hx hby at_23 (pc' := 24) rfl (z := (4 : Int32)) rfl ?_
      refine Gol.imul X2 hx hby at_24 (pc' := 25) rfl (z := (0 : Int32)) rfl ?_
      refine Gol.iloadN X2 hx hby at_25 (pc' := 26) rfl rfl ?_
      refine Gol.iadd X2 hx hby at_26 (pc' := 27) rfl (z := (0 : Int32)) rfl ?_
      refine Gol.iushr X2 hx hby at_27 (pc' := 28) rfl (z := (34401 : Int32)) rfl ?_
      refine Gol.iconst X2 hx hby at_28 (pc' := 29) rfl (z := (1 : Int32)) rfl ?_
      refine Gol.iand X2 hx hby at_29 (pc' := 30) rfl (z := (1 : Int32)) rfl ?_
      refine Gol.ifNo X2 hx hby at_30 (pc' := 33) rfl ((if0 _ _).trans (feq (by decide : ¬ ((1 : Int32) = (0 : Int32)))).1) ?_
      refine Gol.iconst X2 hx hby at_33 (pc' := 34) rfl (z := (1 : Int32)) rfl ?_
      refine Gol.goto X2 hx hby at_34 (pc' := 38) (by decide) ?_
      refine Gol.istore X2 hx hby at_38 (pc' := 40) rfl (l' := #[.val (.int p0), .val (.int p1), .val (.int (0 : Int32)), .val (.int (0 : Int32)), .val (.ref wI), .val (.ref wI), .val (.int (1 : Int32))]) rfl ?_
      refine Gol.aload X2 hx hby at_40 (pc' := 42) rfl rfl rfl ?_
      refine Gol.aload X2 hx hby at_42 (pc' := 44) rfl rfl rfl ?_
      refine Gol.callV X2 hx hby hZ hown 0 [(.ref wI)] (a := wI) (hw _ (List.mem_of_getElem? (i := 10) rfl)) (hw _ (List.mem_of_getElem? (i := 11) rfl)) (notFace_of_selects (args := #[]) (mvT hZ (hw _ (List.mem_of_getElem? (i := 13) rfl)))) (hw _ (List.mem_of_getElem? (i := 13) rfl)) (hw _ (List.mem_of_getElem? (i := 12) rfl)) (hw _ (List.mem_of_getElem? (i := 5) rfl)) (hw _ (List.mem_of_getElem? (i := 14) rfl)) (by decide) E_wI (rm2 l Z a0 hw [] wI wI wS wB h0 n0 Zs S_STRING S_BYTES) (by decide) (by decide) eq2 (by rw [hml]; rfl) (rest := []) (Nat.le_of_eq rfl) (by decide) (by decide) (lenOf pd_1 rfl) rfl at_44 (pc' := 47) rfl ?_
      intro T3 v3 L3 X3 hQ3
      obtain ⟨rfl, Nq3, eq3⟩ := hQ3
      have N3 := Fr.app N2 Nq3
      show GolF _ _ _ _ _ _ _ T3 m 47 #[.val (.int p0), .val (.int p1), .val (.int (0 : Int32)), .val (.int (0 : Int32)), .val (.ref wI), .val (.ref wI), .val (.int (1 : Int32))] [(.int (f2 wI wI wS wB))]
      refine Gol.iload X3 hx hby at_47 (pc' := 49) rfl rfl ?_
      refine Gol.icmpNo X3 hx hby at_49 (pc' := 52) rfl (teq (by simp [f2, ne_wB_wT, ne_wB_wT.symm, ne_wI_wB, ne_wI_wB.symm, ne_wI_wS, ne_wI_wS.symm, ne_wI_wT, ne_wI_wT.symm, ne_wS_wB, ne_wS_wB.symm, ne_wS_wT, ne_wS_wT.symm])).2 ?_
      refine Gol.iconst X3 hx hby at_52 (pc' := 53) rfl (z := (1 : Int32)) rfl ?_
      refine Gol.goto X3 hx hby at_53 (pc' := 57) (by decide) ?_
      exact Gol.retN X3 hx hby (t := .boolean) Bd.returns (by simp) Bd.notSynchronized at_57 eq3 ⟨rfl, N3⟩ (by decide) (by decide)
    · rw [hl]
      show GolF _ _ _ _ _ _ _ s₁ m 7 #[.val (.int p0), .val (.int p1), .val (.int (0 : Int32)), .unset, .unset, .unset, .unset] [(.int (1 : Int32))]
      refine Gol.istoreN X0 hx hby at_7 (pc' := 8) rfl (l' := #[.val (.int p0), .val (.int p1), .val (.int (0 : Int32)), .val (.int (1 : Int32)), .unset, .unset, .unset]) rfl ?_
      refine Gol.iloadN X0 hx hby at_8 (pc' := 9) rfl rfl ?_
      refine Gol.callS X0 hx hby hZ hown 0 [(.int (0 : Int32))] (hw _ (List.mem_of_getElem? (i := 0) rfl)) (hw _ (List.mem_of_getElem? (i := 1) rfl)) (hw _ (List.mem_of_getElem? (i := 2) rfl)) (hw _ (List.mem_of_getElem? (i := 3) rfl)) (by decide) (rm1_0 l Z a0 hw [] (0 : Int32) wI h0 n0 Zs rfl S_INT64) (by decide) (by decide) eh0 (by rw [hml]; rfl) (rest := []) (Nat.le_of_eq rfl) (by decide) (by decide) (lenOf pd_0 rfl) rfl at_9 (pc' := 12) rfl ?_
      intro T4 v4 L4 X4 hQ4
      obtain ⟨rfl, Nq4, eq4⟩ := hQ4
      have N4 := Fr.app N0 Nq4
      show GolF _ _ _ _ _ _ _ T4 m 12 #[.val (.int p0), .val (.int p1), .val (.int (0 : Int32)), .val (.int (1 : Int32)), .unset, .unset, .unset] [(.ref wI)]
      refine Gol.astore X4 hx hby at_12 (pc' := 14) rfl rfl (l' := #[.val (.int p0), .val (.int p1), .val (.int (0 : Int32)), .val (.int (1 : Int32)), .val (.ref wI), .unset, .unset]) rfl ?_
      refine Gol.iloadN X4 hx hby at_14 (pc' := 15) rfl rfl ?_
      refine Gol.callS X4 hx hby hZ hown 0 [(.int (1 : Int32))] (hw _ (List.mem_of_getElem? (i := 0) rfl)) (hw _ (List.mem_of_getElem? (i := 1) rfl)) (hw _ (List.mem_of_getElem? (i := 2) rfl)) (hw _ (List.mem_of_getElem? (i := 3) rfl)) (by decide) (rm1_1 l Z a0 hw [] (1 : Int32) wS h0 n0 Zs rfl S_STRING) (by decide) (by decide) eq4 (by rw [hml]; rfl) (rest := []) (Nat.le_of_eq rfl) (by decide) (by decide) (lenOf pd_0 rfl) rfl at_15 (pc' := 18) rfl ?_
      intro T5 v5 L5 X5 hQ5
      obtain ⟨rfl, Nq5, eq5⟩ := hQ5
      have N5 := Fr.app N4 Nq5
      show GolF _ _ _ _ _ _ _ T5 m 18 #[.val (.int p0), .val (.int p1), .val (.int (0 : Int32)), .val (.int (1 : Int32)), .val (.ref wI), .unset, .unset] [(.ref wS)]
      refine Gol.astore X5 hx hby at_18 (pc' := 20) rfl rfl (l' := #[.val (.int p0), .val (.int p1), .val (.int (0 : Int32)), .val (.int (1 : Int32)), .val (.ref wI), .val (.ref wS), .unset]) rfl ?_
      refine Gol.ldcInt X5 hx hby hZ hown at_20 (pc' := 22) rfl (hw _ (List.mem_of_getElem? (i := 9) rfl)) ?_
      refine Gol.iloadN X5 hx hby at_22 (pc' := 23) rfl rfl ?_
      refine Gol.iconst X5 hx hby at_23 (pc' := 24) rfl (z := (4 : Int32)) rfl ?_
      refine Gol.imul X5 hx hby at_24 (pc' := 25) rfl (z := (0 : Int32)) rfl ?_
      refine Gol.iloadN X5 hx hby at_25 (pc' := 26) rfl rfl ?_
      refine Gol.iadd X5 hx hby at_26 (pc' := 27) rfl (z := (1 : Int32)) rfl ?_
      refine Gol.iushr X5 hx hby at_27 (pc' := 28) rfl (z := (17200 : Int32)) rfl ?_
      refine Gol.iconst X5 hx hby at_28 (pc' := 29) rfl (z := (1 : Int32)) rfl ?_
      refine Gol.iand X5 hx hby at_29 (pc' := 30) rfl (z := (0 : Int32)) rfl ?_
      refine Gol.ifYes X5 hx hby at_30 (pc' := 37) (by decide) ((if0 _ _).trans (teq (by decide : (0 : Int32) = (0 : Int32))).1) ?_
      refine Gol.iconst X5 hx hby at_37 (pc' := 38) rfl (z := (0 : Int32)) rfl ?_
      refine Gol.istore X5 hx hby at_38 (pc' := 40) rfl (l' := #[.val (.int p0), .val (.int p1), .val (.int (0 : Int32)), .val (.int (1 : Int32)), .val (.ref wI), .val (.ref wS), .val (.int (0 : Int32))]) rfl ?_
      refine Gol.aload X5 hx hby at_40 (pc' := 42) rfl rfl rfl ?_
      refine Gol.aload X5 hx hby at_42 (pc' := 44) rfl rfl rfl ?_
      refine Gol.callV X5 hx hby hZ hown 0 [(.ref wS)] (a := wI) (hw _ (List.mem_of_getElem? (i := 10) rfl)) (hw _ (List.mem_of_getElem? (i := 11) rfl)) (notFace_of_selects (args := #[]) (mvT hZ (hw _ (List.mem_of_getElem? (i := 13) rfl)))) (hw _ (List.mem_of_getElem? (i := 13) rfl)) (hw _ (List.mem_of_getElem? (i := 12) rfl)) (hw _ (List.mem_of_getElem? (i := 5) rfl)) (hw _ (List.mem_of_getElem? (i := 14) rfl)) (by decide) E_wI (rm2 l Z a0 hw [] wI wS wS wB h0 n0 Zs S_STRING S_BYTES) (by decide) (by decide) eq5 (by rw [hml]; rfl) (rest := []) (Nat.le_of_eq rfl) (by decide) (by decide) (lenOf pd_1 rfl) rfl at_44 (pc' := 47) rfl ?_
      intro T6 v6 L6 X6 hQ6
      obtain ⟨rfl, Nq6, eq6⟩ := hQ6
      have N6 := Fr.app N5 Nq6
      show GolF _ _ _ _ _ _ _ T6 m 47 #[.val (.int p0), .val (.int p1), .val (.int (0 : Int32)), .val (.int (1 : Int32)), .val (.ref wI), .val (.ref wS), .val (.int (0 : Int32))] [(.int (f2 wI wS wS wB))]
      refine Gol.iload X6 hx hby at_47 (pc' := 49) rfl rfl ?_
      refine Gol.icmpNo X6 hx hby at_49 (pc' := 52) rfl (teq (by simp [f2, ne_wB_wT, ne_wB_wT.symm, ne_wI_wB, ne_wI_wB.symm, ne_wI_wS, ne_wI_wS.symm, ne_wI_wT, ne_wI_wT.symm, ne_wS_wB, ne_wS_wB.symm, ne_wS_wT, ne_wS_wT.symm])).2 ?_
      refine Gol.iconst X6 hx hby at_52 (pc' := 53) rfl (z := (1 : Int32)) rfl ?_
      refine Gol.goto X6 hx hby at_53 (pc' := 57) (by decide) ?_
      exact Gol.retN X6 hx hby (t := .boolean) Bd.returns (by simp) Bd.notSynchronized at_57 eq6 ⟨rfl, N6⟩ (by decide) (by decide)
    · rw [hl]
      show GolF _ _ _ _ _ _ _ s₁ m 7 #[.val (.int p0), .val (.int p1), .val (.int (0 : Int32)), .unset, .unset, .unset, .unset] [(.int (2 : Int32))]
      refine Gol.istoreN X0 hx hby at_7 (pc' := 8) rfl (l' := #[.val (.int p0), .val (.int p1), .val (.int (0 : Int32)), .val (.int (2 : Int32)), .unset, .unset, .unset]) rfl ?_
      refine Gol.iloadN X0 hx hby at_8 (pc' := 9) rfl rfl ?_
      refine Gol.callS X0 hx hby hZ hown 0 [(.int (0 : Int32))] (hw _ (List.mem_of_getElem? (i := 0) rfl)) (hw _ (List.mem_of_getElem? (i := 1) rfl)) (hw _ (List.mem_of_getElem? (i := 2) rfl)) (hw _ (List.mem_of_getElem? (i := 3) rfl)) (by decide) (rm1_0 l Z a0 hw [] (0 : Int32) wI h0 n0 Zs rfl S_INT64) (by decide) (by decide) eh0 (by rw [hml]; rfl) (rest := []) (Nat.le_of_eq rfl) (by decide) (by decide) (lenOf pd_0 rfl) rfl at_9 (pc' := 12) rfl ?_
      intro T7 v7 L7 X7 hQ7
      obtain ⟨rfl, Nq7, eq7⟩ := hQ7
      have N7 := Fr.app N0 Nq7
      show GolF _ _ _ _ _ _ _ T7 m 12 #[.val (.int p0), .val (.int p1), .val (.int (0 : Int32)), .val (.int (2 : Int32)), .unset, .unset, .unset] [(.ref wI)]
      refine Gol.astore X7 hx hby at_12 (pc' := 14) rfl rfl (l' := #[.val (.int p0), .val (.int p1), .val (.int (0 : Int32)), .val (.int (2 : Int32)), .val (.ref wI), .unset, .unset]) rfl ?_
      refine Gol.iloadN X7 hx hby at_14 (pc' := 15) rfl rfl ?_
      refine Gol.callS X7 hx hby hZ hown 0 [(.int (2 : Int32))] (hw _ (List.mem_of_getElem? (i := 0) rfl)) (hw _ (List.mem_of_getElem? (i := 1) rfl)) (hw _ (List.mem_of_getElem? (i := 2) rfl)) (hw _ (List.mem_of_getElem? (i := 3) rfl)) (by decide) (rm1_2 l Z a0 hw [] (2 : Int32) wB h0 n0 Zs rfl S_BYTES) (by decide) (by decide) eq7 (by rw [hml]; rfl) (rest := []) (Nat.le_of_eq rfl) (by decide) (by decide) (lenOf pd_0 rfl) rfl at_15 (pc' := 18) rfl ?_
      intro T8 v8 L8 X8 hQ8
      obtain ⟨rfl, Nq8, eq8⟩ := hQ8
      have N8 := Fr.app N7 Nq8
      show GolF _ _ _ _ _ _ _ T8 m 18 #[.val (.int p0), .val (.int p1), .val (.int (0 : Int32)), .val (.int (2 : Int32)), .val (.ref wI), .unset, .unset] [(.ref wB)]
      refine Gol.astore X8 hx hby at_18 (pc' := 20) rfl rfl (l' := #[.val (.int p0), .val (.int p1), .val (.int (0 : Int32)), .val (.int (2 : Int32)), .val (.ref wI), .val (.ref wB), .unset]) rfl ?_
      refine Gol.ldcInt X8 hx hby hZ hown at_20 (pc' := 22) rfl (hw _ (List.mem_of_getElem? (i := 9) rfl)) ?_
      refine Gol.iloadN X8 hx hby at_22 (pc' := 23) rfl rfl ?_
      refine Gol.iconst X8 hx hby at_23 (pc' := 24) rfl (z := (4 : Int32)) rfl ?_
      refine Gol.imul X8 hx hby at_24 (pc' := 25) rfl (z := (0 : Int32)) rfl ?_
      refine Gol.iloadN X8 hx hby at_25 (pc' := 26) rfl rfl ?_
      refine Gol.iadd X8 hx hby at_26 (pc' := 27) rfl (z := (2 : Int32)) rfl ?_
      refine Gol.iushr X8 hx hby at_27 (pc' := 28) rfl (z := (8600 : Int32)) rfl ?_
      refine Gol.iconst X8 hx hby at_28 (pc' := 29) rfl (z := (1 : Int32)) rfl ?_
      refine Gol.iand X8 hx hby at_29 (pc' := 30) rfl (z := (0 : Int32)) rfl ?_
      refine Gol.ifYes X8 hx hby at_30 (pc' := 37) (by decide) ((if0 _ _).trans (teq (by decide : (0 : Int32) = (0 : Int32))).1) ?_
      refine Gol.iconst X8 hx hby at_37 (pc' := 38) rfl (z := (0 : Int32)) rfl ?_
      refine Gol.istore X8 hx hby at_38 (pc' := 40) rfl (l' := #[.val (.int p0), .val (.int p1), .val (.int (0 : Int32)), .val (.int (2 : Int32)), .val (.ref wI), .val (.ref wB), .val (.int (0 : Int32))]) rfl ?_
      refine Gol.aload X8 hx hby at_40 (pc' := 42) rfl rfl rfl ?_
      refine Gol.aload X8 hx hby at_42 (pc' := 44) rfl rfl rfl ?_
      refine Gol.callV X8 hx hby hZ hown 0 [(.ref wB)] (a := wI) (hw _ (List.mem_of_getElem? (i := 10) rfl)) (hw _ (List.mem_of_getElem? (i := 11) rfl)) (notFace_of_selects (args := #[]) (mvT hZ (hw _ (List.mem_of_getElem? (i := 13) rfl)))) (hw _ (List.mem_of_getElem? (i := 13) rfl)) (hw _ (List.mem_of_getElem? (i := 12) rfl)) (hw _ (List.mem_of_getElem? (i := 5) rfl)) (hw _ (List.mem_of_getElem? (i := 14) rfl)) (by decide) E_wI (rm2 l Z a0 hw [] wI wB wS wB h0 n0 Zs S_STRING S_BYTES) (by decide) (by decide) eq8 (by rw [hml]; rfl) (rest := []) (Nat.le_of_eq rfl) (by decide) (by decide) (lenOf pd_1 rfl) rfl at_44 (pc' := 47) rfl ?_
      intro T9 v9 L9 X9 hQ9
      obtain ⟨rfl, Nq9, eq9⟩ := hQ9
      have N9 := Fr.app N8 Nq9
      show GolF _ _ _ _ _ _ _ T9 m 47 #[.val (.int p0), .val (.int p1), .val (.int (0 : Int32)), .val (.int (2 : Int32)), .val (.ref wI), .val (.ref wB), .val (.int (0 : Int32))] [(.int (f2 wI wB wS wB))]
      refine Gol.iload X9 hx hby at_47 (pc' := 49) rfl rfl ?_
      refine Gol.icmpNo X9 hx hby at_49 (pc' := 52) rfl (teq (by simp [f2, ne_wB_wT, ne_wB_wT.symm, ne_wI_wB, ne_wI_wB.symm, ne_wI_wS, ne_wI_wS.symm, ne_wI_wT, ne_wI_wT.symm, ne_wS_wB, ne_wS_wB.symm, ne_wS_wT, ne_wS_wT.symm])).2 ?_
      refine Gol.iconst X9 hx hby at_52 (pc' := 53) rfl (z := (1 : Int32)) rfl ?_
      refine Gol.goto X9 hx hby at_53 (pc' := 57) (by decide) ?_
      exact Gol.retN X9 hx hby (t := .boolean) Bd.returns (by simp) Bd.notSynchronized at_57 eq9 ⟨rfl, N9⟩ (by decide) (by decide)
    · rw [hl]
      show GolF _ _ _ _ _ _ _ s₁ m 7 #[.val (.int p0), .val (.int p1), .val (.int (0 : Int32)), .unset, .unset, .unset, .unset] [(.int (3 : Int32))]
      refine Gol.istoreN X0 hx hby at_7 (pc' := 8) rfl (l' := #[.val (.int p0), .val (.int p1), .val (.int (0 : Int32)), .val (.int (3 : Int32)), .unset, .unset, .unset]) rfl ?_
      refine Gol.iloadN X0 hx hby at_8 (pc' := 9) rfl rfl ?_
      refine Gol.callS X0 hx hby hZ hown 0 [(.int (0 : Int32))] (hw _ (List.mem_of_getElem? (i := 0) rfl)) (hw _ (List.mem_of_getElem? (i := 1) rfl)) (hw _ (List.mem_of_getElem? (i := 2) rfl)) (hw _ (List.mem_of_getElem? (i := 3) rfl)) (by decide) (rm1_0 l Z a0 hw [] (0 : Int32) wI h0 n0 Zs rfl S_INT64) (by decide) (by decide) eh0 (by rw [hml]; rfl) (rest := []) (Nat.le_of_eq rfl) (by decide) (by decide) (lenOf pd_0 rfl) rfl at_9 (pc' := 12) rfl ?_
      intro T10 v10 L10 X10 hQ10
      obtain ⟨rfl, Nq10, eq10⟩ := hQ10
      have N10 := Fr.app N0 Nq10
      show GolF _ _ _ _ _ _ _ T10 m 12 #[.val (.int p0), .val (.int p1), .val (.int (0 : Int32)), .val (.int (3 : Int32)), .unset, .unset, .unset] [(.ref wI)]
      refine Gol.astore X10 hx hby at_12 (pc' := 14) rfl rfl (l' := #[.val (.int p0), .val (.int p1), .val (.int (0 : Int32)), .val (.int (3 : Int32)), .val (.ref wI), .unset, .unset]) rfl ?_
      refine Gol.iloadN X10 hx hby at_14 (pc' := 15) rfl rfl ?_
      refine Gol.callS X10 hx hby hZ hown 0 [(.int (3 : Int32))] (hw _ (List.mem_of_getElem? (i := 0) rfl)) (hw _ (List.mem_of_getElem? (i := 1) rfl)) (hw _ (List.mem_of_getElem? (i := 2) rfl)) (hw _ (List.mem_of_getElem? (i := 3) rfl)) (by decide) (rm1_3 l Z a0 hw [] (3 : Int32) wT h0 n0 Zs rfl S_TIMESTAMP) (by decide) (by decide) eq10 (by rw [hml]; rfl) (rest := []) (Nat.le_of_eq rfl) (by decide) (by decide) (lenOf pd_0 rfl) rfl at_15 (pc' := 18) rfl ?_
      intro T11 v11 L11 X11 hQ11
      obtain ⟨rfl, Nq11, eq11⟩ := hQ11
      have N11 := Fr.app N10 Nq11
      show GolF _ _ _ _ _ _ _ T11 m 18 #[.val (.int p0), .val (.int p1), .val (.int (0 : Int32)), .val (.int (3 : Int32)), .val (.ref wI), .unset, .unset] [(.ref wT)]
      refine Gol.astore X11 hx hby at_18 (pc' := 20) rfl rfl (l' := #[.val (.int p0), .val (.int p1), .val (.int (0 : Int32)), .val (.int (3 : Int32)), .val (.ref wI), .val (.ref wT), .unset]) rfl ?_
      refine Gol.ldcInt X11 hx hby hZ hown at_20 (pc' := 22) rfl (hw _ (List.mem_of_getElem? (i := 9) rfl)) ?_
      refine Gol.iloadN X11 hx hby at_22 (pc' := 23) rfl rfl ?_
      refine Gol.iconst X11 hx hby at_23 (pc' := 24) rfl (z := (4 : Int32)) rfl ?_
      refine Gol.imul X11 hx hby at_24 (pc' := 25) rfl (z := (0 : Int32)) rfl ?_
      refine Gol.iloadN X11 hx hby at_25 (pc' := 26) rfl rfl ?_
      refine Gol.iadd X11 hx hby at_26 (pc' := 27) rfl (z := (3 : Int32)) rfl ?_
      refine Gol.iushr X11 hx hby at_27 (pc' := 28) rfl (z := (4300 : Int32)) rfl ?_
      refine Gol.iconst X11 hx hby at_28 (pc' := 29) rfl (z := (1 : Int32)) rfl ?_
      refine Gol.iand X11 hx hby at_29 (pc' := 30) rfl (z := (0 : Int32)) rfl ?_
      refine Gol.ifYes X11 hx hby at_30 (pc' := 37) (by decide) ((if0 _ _).trans (teq (by decide : (0 : Int32) = (0 : Int32))).1) ?_
      refine Gol.iconst X11 hx hby at_37 (pc' := 38) rfl (z := (0 : Int32)) rfl ?_
      refine Gol.istore X11 hx hby at_38 (pc' := 40) rfl (l' := #[.val (.int p0), .val (.int p1), .val (.int (0 : Int32)), .val (.int (3 : Int32)), .val (.ref wI), .val (.ref wT), .val (.int (0 : Int32))]) rfl ?_
      refine Gol.aload X11 hx hby at_40 (pc' := 42) rfl rfl rfl ?_
      refine Gol.aload X11 hx hby at_42 (pc' := 44) rfl rfl rfl ?_
      refine Gol.callV X11 hx hby hZ hown 0 [(.ref wT)] (a := wI) (hw _ (List.mem_of_getElem? (i := 10) rfl)) (hw _ (List.mem_of_getElem? (i := 11) rfl)) (notFace_of_selects (args := #[]) (mvT hZ (hw _ (List.mem_of_getElem? (i := 13) rfl)))) (hw _ (List.mem_of_getElem? (i := 13) rfl)) (hw _ (List.mem_of_getElem? (i := 12) rfl)) (hw _ (List.mem_of_getElem? (i := 5) rfl)) (hw _ (List.mem_of_getElem? (i := 14) rfl)) (by decide) E_wI (rm2 l Z a0 hw [] wI wT wS wB h0 n0 Zs S_STRING S_BYTES) (by decide) (by decide) eq11 (by rw [hml]; rfl) (rest := []) (Nat.le_of_eq rfl) (by decide) (by decide) (lenOf pd_1 rfl) rfl at_44 (pc' := 47) rfl ?_
      intro T12 v12 L12 X12 hQ12
      obtain ⟨rfl, Nq12, eq12⟩ := hQ12
      have N12 := Fr.app N11 Nq12
      show GolF _ _ _ _ _ _ _ T12 m 47 #[.val (.int p0), .val (.int p1), .val (.int (0 : Int32)), .val (.int (3 : Int32)), .val (.ref wI), .val (.ref wT), .val (.int (0 : Int32))] [(.int (f2 wI wT wS wB))]
      refine Gol.iload X12 hx hby at_47 (pc' := 49) rfl rfl ?_
      refine Gol.icmpNo X12 hx hby at_49 (pc' := 52) rfl (teq (by simp [f2, ne_wB_wT, ne_wB_wT.symm, ne_wI_wB, ne_wI_wB.symm, ne_wI_wS, ne_wI_wS.symm, ne_wI_wT, ne_wI_wT.symm, ne_wS_wB, ne_wS_wB.symm, ne_wS_wT, ne_wS_wT.symm])).2 ?_
      refine Gol.iconst X12 hx hby at_52 (pc' := 53) rfl (z := (1 : Int32)) rfl ?_
      refine Gol.goto X12 hx hby at_53 (pc' := 57) (by decide) ?_
      exact Gol.retN X12 hx hby (t := .boolean) Bd.returns (by simp) Bd.notSynchronized at_57 eq12 ⟨rfl, N12⟩ (by decide) (by decide)
  · rw [hk]
    show GolF _ _ _ _ _ _ _ s₁ m 3 #[.val (.int p0), .val (.int p1), .unset, .unset, .unset, .unset, .unset] [(.int (1 : Int32))]
    refine Gol.istoreN X0 hx hby at_3 (pc' := 4) rfl (l' := #[.val (.int p0), .val (.int p1), .val (.int (1 : Int32)), .unset, .unset, .unset, .unset]) rfl ?_
    refine Gol.iloadN X0 hx hby at_4 (pc' := 5) rfl rfl ?_
    refine Gol.iconst X0 hx hby at_5 (pc' := 6) rfl (z := (3 : Int32)) rfl ?_
    refine Gol.iand X0 hx hby at_6 (pc' := 7) rfl rfl ?_
    rcases own_mask3 p1 with hl | hl | hl | hl
    · rw [hl]
      show GolF _ _ _ _ _ _ _ s₁ m 7 #[.val (.int p0), .val (.int p1), .val (.int (1 : Int32)), .unset, .unset, .unset, .unset] [(.int (0 : Int32))]
      refine Gol.istoreN X0 hx hby at_7 (pc' := 8) rfl (l' := #[.val (.int p0), .val (.int p1), .val (.int (1 : Int32)), .val (.int (0 : Int32)), .unset, .unset, .unset]) rfl ?_
      refine Gol.iloadN X0 hx hby at_8 (pc' := 9) rfl rfl ?_
      refine Gol.callS X0 hx hby hZ hown 0 [(.int (1 : Int32))] (hw _ (List.mem_of_getElem? (i := 0) rfl)) (hw _ (List.mem_of_getElem? (i := 1) rfl)) (hw _ (List.mem_of_getElem? (i := 2) rfl)) (hw _ (List.mem_of_getElem? (i := 3) rfl)) (by decide) (rm1_1 l Z a0 hw [] (1 : Int32) wS h0 n0 Zs rfl S_STRING) (by decide) (by decide) eh0 (by rw [hml]; rfl) (rest := []) (Nat.le_of_eq rfl) (by decide) (by decide) (lenOf pd_0 rfl) rfl at_9 (pc' := 12) rfl ?_
      intro T13 v13 L13 X13 hQ13
      obtain ⟨rfl, Nq13, eq13⟩ := hQ13
      have N13 := Fr.app N0 Nq13
      show GolF _ _ _ _ _ _ _ T13 m 12 #[.val (.int p0), .val (.int p1), .val (.int (1 : Int32)), .val (.int (0 : Int32)), .unset, .unset, .unset] [(.ref wS)]
      refine Gol.astore X13 hx hby at_12 (pc' := 14) rfl rfl (l' := #[.val (.int p0), .val (.int p1), .val (.int (1 : Int32)), .val (.int (0 : Int32)), .val (.ref wS), .unset, .unset]) rfl ?_
      refine Gol.iloadN X13 hx hby at_14 (pc' := 15) rfl rfl ?_
      refine Gol.callS X13 hx hby hZ hown 0 [(.int (0 : Int32))] (hw _ (List.mem_of_getElem? (i := 0) rfl)) (hw _ (List.mem_of_getElem? (i := 1) rfl)) (hw _ (List.mem_of_getElem? (i := 2) rfl)) (hw _ (List.mem_of_getElem? (i := 3) rfl)) (by decide) (rm1_0 l Z a0 hw [] (0 : Int32) wI h0 n0 Zs rfl S_INT64) (by decide) (by decide) eq13 (by rw [hml]; rfl) (rest := []) (Nat.le_of_eq rfl) (by decide) (by decide) (lenOf pd_0 rfl) rfl at_15 (pc' := 18) rfl ?_
      intro T14 v14 L14 X14 hQ14
      obtain ⟨rfl, Nq14, eq14⟩ := hQ14
      have N14 := Fr.app N13 Nq14
      show GolF _ _ _ _ _ _ _ T14 m 18 #[.val (.int p0), .val (.int p1), .val (.int (1 : Int32)), .val (.int (0 : Int32)), .val (.ref wS), .unset, .unset] [(.ref wI)]
      refine Gol.astore X14 hx hby at_18 (pc' := 20) rfl rfl (l' := #[.val (.int p0), .val (.int p1), .val (.int (1 : Int32)), .val (.int (0 : Int32)), .val (.ref wS), .val (.ref wI), .unset]) rfl ?_
      refine Gol.ldcInt X14 hx hby hZ hown at_20 (pc' := 22) rfl (hw _ (List.mem_of_getElem? (i := 9) rfl)) ?_
      refine Gol.iloadN X14 hx hby at_22 (pc' := 23) rfl rfl ?_
      refine Gol.iconst X14 hx hby at_23 (pc' := 24) rfl (z := (4 : Int32)) rfl ?_
      refine Gol.imul X14 hx hby at_24 (pc' := 25) rfl (z := (4 : Int32)) rfl ?_
      refine Gol.iloadN X14 hx hby at_25 (pc' := 26) rfl rfl ?_
      refine Gol.iadd X14 hx hby at_26 (pc' := 27) rfl (z := (4 : Int32)) rfl ?_
      refine Gol.iushr X14 hx hby at_27 (pc' := 28) rfl (z := (2150 : Int32)) rfl ?_
      refine Gol.iconst X14 hx hby at_28 (pc' := 29) rfl (z := (1 : Int32)) rfl ?_
      refine Gol.iand X14 hx hby at_29 (pc' := 30) rfl (z := (0 : Int32)) rfl ?_
      refine Gol.ifYes X14 hx hby at_30 (pc' := 37) (by decide) ((if0 _ _).trans (teq (by decide : (0 : Int32) = (0 : Int32))).1) ?_
      refine Gol.iconst X14 hx hby at_37 (pc' := 38) rfl (z := (0 : Int32)) rfl ?_
      refine Gol.istore X14 hx hby at_38 (pc' := 40) rfl (l' := #[.val (.int p0), .val (.int p1), .val (.int (1 : Int32)), .val (.int (0 : Int32)), .val (.ref wS), .val (.ref wI), .val (.int (0 : Int32))]) rfl ?_
      refine Gol.aload X14 hx hby at_40 (pc' := 42) rfl rfl rfl ?_
      refine Gol.aload X14 hx hby at_42 (pc' := 44) rfl rfl rfl ?_
      refine Gol.callV X14 hx hby hZ hown 0 [(.ref wI)] (a := wS) (hw _ (List.mem_of_getElem? (i := 10) rfl)) (hw _ (List.mem_of_getElem? (i := 11) rfl)) (notFace_of_selects (args := #[]) (mvT hZ (hw _ (List.mem_of_getElem? (i := 22) rfl)))) (hw _ (List.mem_of_getElem? (i := 22) rfl)) (hw _ (List.mem_of_getElem? (i := 12) rfl)) (hw _ (List.mem_of_getElem? (i := 5) rfl)) (hw _ (List.mem_of_getElem? (i := 14) rfl)) (by decide) E_wS (rm2 l Z a0 hw [] wS wI wS wB h0 n0 Zs S_STRING S_BYTES) (by decide) (by decide) eq14 (by rw [hml]; rfl) (rest := []) (Nat.le_of_eq rfl) (by decide) (by decide) (lenOf pd_1 rfl) rfl at_44 (pc' := 47) rfl ?_
      intro T15 v15 L15 X15 hQ15
      obtain ⟨rfl, Nq15, eq15⟩ := hQ15
      have N15 := Fr.app N14 Nq15
      show GolF _ _ _ _ _ _ _ T15 m 47 #[.val (.int p0), .val (.int p1), .val (.int (1 : Int32)), .val (.int (0 : Int32)), .val (.ref wS), .val (.ref wI), .val (.int (0 : Int32))] [(.int (f2 wS wI wS wB))]
      refine Gol.iload X15 hx hby at_47 (pc' := 49) rfl rfl ?_
      refine Gol.icmpNo X15 hx hby at_49 (pc' := 52) rfl (teq (by simp [f2, ne_wB_wT, ne_wB_wT.symm, ne_wI_wB, ne_wI_wB.symm, ne_wI_wS, ne_wI_wS.symm, ne_wI_wT, ne_wI_wT.symm, ne_wS_wB, ne_wS_wB.symm, ne_wS_wT, ne_wS_wT.symm])).2 ?_
      refine Gol.iconst X15 hx hby at_52 (pc' := 53) rfl (z := (1 : Int32)) rfl ?_
      refine Gol.goto X15 hx hby at_53 (pc' := 57) (by decide) ?_
      exact Gol.retN X15 hx hby (t := .boolean) Bd.returns (by simp) Bd.notSynchronized at_57 eq15 ⟨rfl, N15⟩ (by decide) (by decide)
    · rw [hl]
      show GolF _ _ _ _ _ _ _ s₁ m 7 #[.val (.int p0), .val (.int p1), .val (.int (1 : Int32)), .unset, .unset, .unset, .unset] [(.int (1 : Int32))]
      refine Gol.istoreN X0 hx hby at_7 (pc' := 8) rfl (l' := #[.val (.int p0), .val (.int p1), .val (.int (1 : Int32)), .val (.int (1 : Int32)), .unset, .unset, .unset]) rfl ?_
      refine Gol.iloadN X0 hx hby at_8 (pc' := 9) rfl rfl ?_
      refine Gol.callS X0 hx hby hZ hown 0 [(.int (1 : Int32))] (hw _ (List.mem_of_getElem? (i := 0) rfl)) (hw _ (List.mem_of_getElem? (i := 1) rfl)) (hw _ (List.mem_of_getElem? (i := 2) rfl)) (hw _ (List.mem_of_getElem? (i := 3) rfl)) (by decide) (rm1_1 l Z a0 hw [] (1 : Int32) wS h0 n0 Zs rfl S_STRING) (by decide) (by decide) eh0 (by rw [hml]; rfl) (rest := []) (Nat.le_of_eq rfl) (by decide) (by decide) (lenOf pd_0 rfl) rfl at_9 (pc' := 12) rfl ?_
      intro T16 v16 L16 X16 hQ16
      obtain ⟨rfl, Nq16, eq16⟩ := hQ16
      have N16 := Fr.app N0 Nq16
      show GolF _ _ _ _ _ _ _ T16 m 12 #[.val (.int p0), .val (.int p1), .val (.int (1 : Int32)), .val (.int (1 : Int32)), .unset, .unset, .unset] [(.ref wS)]
      refine Gol.astore X16 hx hby at_12 (pc' := 14) rfl rfl (l' := #[.val (.int p0), .val (.int p1), .val (.int (1 : Int32)), .val (.int (1 : Int32)), .val (.ref wS), .unset, .unset]) rfl ?_
      refine Gol.iloadN X16 hx hby at_14 (pc' := 15) rfl rfl ?_
      refine Gol.callS X16 hx hby hZ hown 0 [(.int (1 : Int32))] (hw _ (List.mem_of_getElem? (i := 0) rfl)) (hw _ (List.mem_of_getElem? (i := 1) rfl)) (hw _ (List.mem_of_getElem? (i := 2) rfl)) (hw _ (List.mem_of_getElem? (i := 3) rfl)) (by decide) (rm1_1 l Z a0 hw [] (1 : Int32) wS h0 n0 Zs rfl S_STRING) (by decide) (by decide) eq16 (by rw [hml]; rfl) (rest := []) (Nat.le_of_eq rfl) (by decide) (by decide) (lenOf pd_0 rfl) rfl at_15 (pc' := 18) rfl ?_
      intro T17 v17 L17 X17 hQ17
      obtain ⟨rfl, Nq17, eq17⟩ := hQ17
      have N17 := Fr.app N16 Nq17
      show GolF _ _ _ _ _ _ _ T17 m 18 #[.val (.int p0), .val (.int p1), .val (.int (1 : Int32)), .val (.int (1 : Int32)), .val (.ref wS), .unset, .unset] [(.ref wS)]
      refine Gol.astore X17 hx hby at_18 (pc' := 20) rfl rfl (l' := #[.val (.int p0), .val (.int p1), .val (.int (1 : Int32)), .val (.int (1 : Int32)), .val (.ref wS), .val (.ref wS), .unset]) rfl ?_
      refine Gol.ldcInt X17 hx hby hZ hown at_20 (pc' := 22) rfl (hw _ (List.mem_of_getElem? (i := 9) rfl)) ?_
      refine Gol.iloadN X17 hx hby at_22 (pc' := 23) rfl rfl ?_
      refine Gol.iconst X17 hx hby at_23 (pc' := 24) rfl (z := (4 : Int32)) rfl ?_
      refine Gol.imul X17 hx hby at_24 (pc' := 25) rfl (z := (4 : Int32)) rfl ?_
      refine Gol.iloadN X17 hx hby at_25 (pc' := 26) rfl rfl ?_
      refine Gol.iadd X17 hx hby at_26 (pc' := 27) rfl (z := (5 : Int32)) rfl ?_
      refine Gol.iushr X17 hx hby at_27 (pc' := 28) rfl (z := (1075 : Int32)) rfl ?_
      refine Gol.iconst X17 hx hby at_28 (pc' := 29) rfl (z := (1 : Int32)) rfl ?_
      refine Gol.iand X17 hx hby at_29 (pc' := 30) rfl (z := (1 : Int32)) rfl ?_
      refine Gol.ifNo X17 hx hby at_30 (pc' := 33) rfl ((if0 _ _).trans (feq (by decide : ¬ ((1 : Int32) = (0 : Int32)))).1) ?_
      refine Gol.iconst X17 hx hby at_33 (pc' := 34) rfl (z := (1 : Int32)) rfl ?_
      refine Gol.goto X17 hx hby at_34 (pc' := 38) (by decide) ?_
      refine Gol.istore X17 hx hby at_38 (pc' := 40) rfl (l' := #[.val (.int p0), .val (.int p1), .val (.int (1 : Int32)), .val (.int (1 : Int32)), .val (.ref wS), .val (.ref wS), .val (.int (1 : Int32))]) rfl ?_
      refine Gol.aload X17 hx hby at_40 (pc' := 42) rfl rfl rfl ?_
      refine Gol.aload X17 hx hby at_42 (pc' := 44) rfl rfl rfl ?_
      refine Gol.callV X17 hx hby hZ hown 0 [(.ref wS)] (a := wS) (hw _ (List.mem_of_getElem? (i := 10) rfl)) (hw _ (List.mem_of_getElem? (i := 11) rfl)) (notFace_of_selects (args := #[]) (mvT hZ (hw _ (List.mem_of_getElem? (i := 22) rfl)))) (hw _ (List.mem_of_getElem? (i := 22) rfl)) (hw _ (List.mem_of_getElem? (i := 12) rfl)) (hw _ (List.mem_of_getElem? (i := 5) rfl)) (hw _ (List.mem_of_getElem? (i := 14) rfl)) (by decide) E_wS (rm2 l Z a0 hw [] wS wS wS wB h0 n0 Zs S_STRING S_BYTES) (by decide) (by decide) eq17 (by rw [hml]; rfl) (rest := []) (Nat.le_of_eq rfl) (by decide) (by decide) (lenOf pd_1 rfl) rfl at_44 (pc' := 47) rfl ?_
      intro T18 v18 L18 X18 hQ18
      obtain ⟨rfl, Nq18, eq18⟩ := hQ18
      have N18 := Fr.app N17 Nq18
      show GolF _ _ _ _ _ _ _ T18 m 47 #[.val (.int p0), .val (.int p1), .val (.int (1 : Int32)), .val (.int (1 : Int32)), .val (.ref wS), .val (.ref wS), .val (.int (1 : Int32))] [(.int (f2 wS wS wS wB))]
      refine Gol.iload X18 hx hby at_47 (pc' := 49) rfl rfl ?_
      refine Gol.icmpNo X18 hx hby at_49 (pc' := 52) rfl (teq (by simp [f2, ne_wB_wT, ne_wB_wT.symm, ne_wI_wB, ne_wI_wB.symm, ne_wI_wS, ne_wI_wS.symm, ne_wI_wT, ne_wI_wT.symm, ne_wS_wB, ne_wS_wB.symm, ne_wS_wT, ne_wS_wT.symm])).2 ?_
      refine Gol.iconst X18 hx hby at_52 (pc' := 53) rfl (z := (1 : Int32)) rfl ?_
      refine Gol.goto X18 hx hby at_53 (pc' := 57) (by decide) ?_
      exact Gol.retN X18 hx hby (t := .boolean) Bd.returns (by simp) Bd.notSynchronized at_57 eq18 ⟨rfl, N18⟩ (by decide) (by decide)
    · rw [hl]
      show GolF _ _ _ _ _ _ _ s₁ m 7 #[.val (.int p0), .val (.int p1), .val (.int (1 : Int32)), .unset, .unset, .unset, .unset] [(.int (2 : Int32))]
      refine Gol.istoreN X0 hx hby at_7 (pc' := 8) rfl (l' := #[.val (.int p0), .val (.int p1), .val (.int (1 : Int32)), .val (.int (2 : Int32)), .unset, .unset, .unset]) rfl ?_
      refine Gol.iloadN X0 hx hby at_8 (pc' := 9) rfl rfl ?_
      refine Gol.callS X0 hx hby hZ hown 0 [(.int (1 : Int32))] (hw _ (List.mem_of_getElem? (i := 0) rfl)) (hw _ (List.mem_of_getElem? (i := 1) rfl)) (hw _ (List.mem_of_getElem? (i := 2) rfl)) (hw _ (List.mem_of_getElem? (i := 3) rfl)) (by decide) (rm1_1 l Z a0 hw [] (1 : Int32) wS h0 n0 Zs rfl S_STRING) (by decide) (by decide) eh0 (by rw [hml]; rfl) (rest := []) (Nat.le_of_eq rfl) (by decide) (by decide) (lenOf pd_0 rfl) rfl at_9 (pc' := 12) rfl ?_
      intro T19 v19 L19 X19 hQ19
      obtain ⟨rfl, Nq19, eq19⟩ := hQ19
      have N19 := Fr.app N0 Nq19
      show GolF _ _ _ _ _ _ _ T19 m 12 #[.val (.int p0), .val (.int p1), .val (.int (1 : Int32)), .val (.int (2 : Int32)), .unset, .unset, .unset] [(.ref wS)]
      refine Gol.astore X19 hx hby at_12 (pc' := 14) rfl rfl (l' := #[.val (.int p0), .val (.int p1), .val (.int (1 : Int32)), .val (.int (2 : Int32)), .val (.ref wS), .unset, .unset]) rfl ?_
      refine Gol.iloadN X19 hx hby at_14 (pc' := 15) rfl rfl ?_
      refine Gol.callS X19 hx hby hZ hown 0 [(.int (2 : Int32))] (hw _ (List.mem_of_getElem? (i := 0) rfl)) (hw _ (List.mem_of_getElem? (i := 1) rfl)) (hw _ (List.mem_of_getElem? (i := 2) rfl)) (hw _ (List.mem_of_getElem? (i := 3) rfl)) (by decide) (rm1_2 l Z a0 hw [] (2 : Int32) wB h0 n0 Zs rfl S_BYTES) (by decide) (by decide) eq19 (by rw [hml]; rfl) (rest := []) (Nat.le_of_eq rfl) (by decide) (by decide) (lenOf pd_0 rfl) rfl at_15 (pc' := 18) rfl ?_
      intro T20 v20 L20 X20 hQ20
      obtain ⟨rfl, Nq20, eq20⟩ := hQ20
      have N20 := Fr.app N19 Nq20
      show GolF _ _ _ _ _ _ _ T20 m 18 #[.val (.int p0), .val (.int p1), .val (.int (1 : Int32)), .val (.int (2 : Int32)), .val (.ref wS), .unset, .unset] [(.ref wB)]
      refine Gol.astore X20 hx hby at_18 (pc' := 20) rfl rfl (l' := #[.val (.int p0), .val (.int p1), .val (.int (1 : Int32)), .val (.int (2 : Int32)), .val (.ref wS), .val (.ref wB), .unset]) rfl ?_
      refine Gol.ldcInt X20 hx hby hZ hown at_20 (pc' := 22) rfl (hw _ (List.mem_of_getElem? (i := 9) rfl)) ?_
      refine Gol.iloadN X20 hx hby at_22 (pc' := 23) rfl rfl ?_
      refine Gol.iconst X20 hx hby at_23 (pc' := 24) rfl (z := (4 : Int32)) rfl ?_
      refine Gol.imul X20 hx hby at_24 (pc' := 25) rfl (z := (4 : Int32)) rfl ?_
      refine Gol.iloadN X20 hx hby at_25 (pc' := 26) rfl rfl ?_
      refine Gol.iadd X20 hx hby at_26 (pc' := 27) rfl (z := (6 : Int32)) rfl ?_
      refine Gol.iushr X20 hx hby at_27 (pc' := 28) rfl (z := (537 : Int32)) rfl ?_
      refine Gol.iconst X20 hx hby at_28 (pc' := 29) rfl (z := (1 : Int32)) rfl ?_
      refine Gol.iand X20 hx hby at_29 (pc' := 30) rfl (z := (1 : Int32)) rfl ?_
      refine Gol.ifNo X20 hx hby at_30 (pc' := 33) rfl ((if0 _ _).trans (feq (by decide : ¬ ((1 : Int32) = (0 : Int32)))).1) ?_
      refine Gol.iconst X20 hx hby at_33 (pc' := 34) rfl (z := (1 : Int32)) rfl ?_
      refine Gol.goto X20 hx hby at_34 (pc' := 38) (by decide) ?_
      refine Gol.istore X20 hx hby at_38 (pc' := 40) rfl (l' := #[.val (.int p0), .val (.int p1), .val (.int (1 : Int32)), .val (.int (2 : Int32)), .val (.ref wS), .val (.ref wB), .val (.int (1 : Int32))]) rfl ?_
      refine Gol.aload X20 hx hby at_40 (pc' := 42) rfl rfl rfl ?_
      refine Gol.aload X20 hx hby at_42 (pc' := 44) rfl rfl rfl ?_
      refine Gol.callV X20 hx hby hZ hown 0 [(.ref wB)] (a := wS) (hw _ (List.mem_of_getElem? (i := 10) rfl)) (hw _ (List.mem_of_getElem? (i := 11) rfl)) (notFace_of_selects (args := #[]) (mvT hZ (hw _ (List.mem_of_getElem? (i := 22) rfl)))) (hw _ (List.mem_of_getElem? (i := 22) rfl)) (hw _ (List.mem_of_getElem? (i := 12) rfl)) (hw _ (List.mem_of_getElem? (i := 5) rfl)) (hw _ (List.mem_of_getElem? (i := 14) rfl)) (by decide) E_wS (rm2 l Z a0 hw [] wS wB wS wB h0 n0 Zs S_STRING S_BYTES) (by decide) (by decide) eq20 (by rw [hml]; rfl) (rest := []) (Nat.le_of_eq rfl) (by decide) (by decide) (lenOf pd_1 rfl) rfl at_44 (pc' := 47) rfl ?_
      intro T21 v21 L21 X21 hQ21
      obtain ⟨rfl, Nq21, eq21⟩ := hQ21
      have N21 := Fr.app N20 Nq21
      show GolF _ _ _ _ _ _ _ T21 m 47 #[.val (.int p0), .val (.int p1), .val (.int (1 : Int32)), .val (.int (2 : Int32)), .val (.ref wS), .val (.ref wB), .val (.int (1 : Int32))] [(.int (f2 wS wB wS wB))]
      refine Gol.iload X21 hx hby at_47 (pc' := 49) rfl rfl ?_
      refine Gol.icmpNo X21 hx hby at_49 (pc' := 52) rfl (teq (by simp [f2, ne_wB_wT, ne_wB_wT.symm, ne_wI_wB, ne_wI_wB.symm, ne_wI_wS, ne_wI_wS.symm, ne_wI_wT, ne_wI_wT.symm, ne_wS_wB, ne_wS_wB.symm, ne_wS_wT, ne_wS_wT.symm])).2 ?_
      refine Gol.iconst X21 hx hby at_52 (pc' := 53) rfl (z := (1 : Int32)) rfl ?_
      refine Gol.goto X21 hx hby at_53 (pc' := 57) (by decide) ?_
      exact Gol.retN X21 hx hby (t := .boolean) Bd.returns (by simp) Bd.notSynchronized at_57 eq21 ⟨rfl, N21⟩ (by decide) (by decide)
    · rw [hl]
      show GolF _ _ _ _ _ _ _ s₁ m 7 #[.val (.int p0), .val (.int p1), .val (.int (1 : Int32)), .unset, .unset, .unset, .unset] [(.int (3 : Int32))]
      refine Gol.istoreN X0 hx hby at_7 (pc' := 8) rfl (l' := #[.val (.int p0), .val (.int p1), .val (.int (1 : Int32)), .val (.int (3 : Int32)), .unset, .unset, .unset]) rfl ?_
      refine Gol.iloadN X0 hx hby at_8 (pc' := 9) rfl rfl ?_
      refine Gol.callS X0 hx hby hZ hown 0 [(.int (1 : Int32))] (hw _ (List.mem_of_getElem? (i := 0) rfl)) (hw _ (List.mem_of_getElem? (i := 1) rfl)) (hw _ (List.mem_of_getElem? (i := 2) rfl)) (hw _ (List.mem_of_getElem? (i := 3) rfl)) (by decide) (rm1_1 l Z a0 hw [] (1 : Int32) wS h0 n0 Zs rfl S_STRING) (by decide) (by decide) eh0 (by rw [hml]; rfl) (rest := []) (Nat.le_of_eq rfl) (by decide) (by decide) (lenOf pd_0 rfl) rfl at_9 (pc' := 12) rfl ?_
      intro T22 v22 L22 X22 hQ22
      obtain ⟨rfl, Nq22, eq22⟩ := hQ22
      have N22 := Fr.app N0 Nq22
      show GolF _ _ _ _ _ _ _ T22 m 12 #[.val (.int p0), .val (.int p1), .val (.int (1 : Int32)), .val (.int (3 : Int32)), .unset, .unset, .unset] [(.ref wS)]
      refine Gol.astore X22 hx hby at_12 (pc' := 14) rfl rfl (l' := #[.val (.int p0), .val (.int p1), .val (.int (1 : Int32)), .val (.int (3 : Int32)), .val (.ref wS), .unset, .unset]) rfl ?_
      refine Gol.iloadN X22 hx hby at_14 (pc' := 15) rfl rfl ?_
      refine Gol.callS X22 hx hby hZ hown 0 [(.int (3 : Int32))] (hw _ (List.mem_of_getElem? (i := 0) rfl)) (hw _ (List.mem_of_getElem? (i := 1) rfl)) (hw _ (List.mem_of_getElem? (i := 2) rfl)) (hw _ (List.mem_of_getElem? (i := 3) rfl)) (by decide) (rm1_3 l Z a0 hw [] (3 : Int32) wT h0 n0 Zs rfl S_TIMESTAMP) (by decide) (by decide) eq22 (by rw [hml]; rfl) (rest := []) (Nat.le_of_eq rfl) (by decide) (by decide) (lenOf pd_0 rfl) rfl at_15 (pc' := 18) rfl ?_
      intro T23 v23 L23 X23 hQ23
      obtain ⟨rfl, Nq23, eq23⟩ := hQ23
      have N23 := Fr.app N22 Nq23
      show GolF _ _ _ _ _ _ _ T23 m 18 #[.val (.int p0), .val (.int p1), .val (.int (1 : Int32)), .val (.int (3 : Int32)), .val (.ref wS), .unset, .unset] [(.ref wT)]
      refine Gol.astore X23 hx hby at_18 (pc' := 20) rfl rfl (l' := #[.val (.int p0), .val (.int p1), .val (.int (1 : Int32)), .val (.int (3 : Int32)), .val (.ref wS), .val (.ref wT), .unset]) rfl ?_
      refine Gol.ldcInt X23 hx hby hZ hown at_20 (pc' := 22) rfl (hw _ (List.mem_of_getElem? (i := 9) rfl)) ?_
      refine Gol.iloadN X23 hx hby at_22 (pc' := 23) rfl rfl ?_
      refine Gol.iconst X23 hx hby at_23 (pc' := 24) rfl (z := (4 : Int32)) rfl ?_
      refine Gol.imul X23 hx hby at_24 (pc' := 25) rfl (z := (4 : Int32)) rfl ?_
      refine Gol.iloadN X23 hx hby at_25 (pc' := 26) rfl rfl ?_
      refine Gol.iadd X23 hx hby at_26 (pc' := 27) rfl (z := (7 : Int32)) rfl ?_
      refine Gol.iushr X23 hx hby at_27 (pc' := 28) rfl (z := (268 : Int32)) rfl ?_
      refine Gol.iconst X23 hx hby at_28 (pc' := 29) rfl (z := (1 : Int32)) rfl ?_
      refine Gol.iand X23 hx hby at_29 (pc' := 30) rfl (z := (0 : Int32)) rfl ?_
      refine Gol.ifYes X23 hx hby at_30 (pc' := 37) (by decide) ((if0 _ _).trans (teq (by decide : (0 : Int32) = (0 : Int32))).1) ?_
      refine Gol.iconst X23 hx hby at_37 (pc' := 38) rfl (z := (0 : Int32)) rfl ?_
      refine Gol.istore X23 hx hby at_38 (pc' := 40) rfl (l' := #[.val (.int p0), .val (.int p1), .val (.int (1 : Int32)), .val (.int (3 : Int32)), .val (.ref wS), .val (.ref wT), .val (.int (0 : Int32))]) rfl ?_
      refine Gol.aload X23 hx hby at_40 (pc' := 42) rfl rfl rfl ?_
      refine Gol.aload X23 hx hby at_42 (pc' := 44) rfl rfl rfl ?_
      refine Gol.callV X23 hx hby hZ hown 0 [(.ref wT)] (a := wS) (hw _ (List.mem_of_getElem? (i := 10) rfl)) (hw _ (List.mem_of_getElem? (i := 11) rfl)) (notFace_of_selects (args := #[]) (mvT hZ (hw _ (List.mem_of_getElem? (i := 22) rfl)))) (hw _ (List.mem_of_getElem? (i := 22) rfl)) (hw _ (List.mem_of_getElem? (i := 12) rfl)) (hw _ (List.mem_of_getElem? (i := 5) rfl)) (hw _ (List.mem_of_getElem? (i := 14) rfl)) (by decide) E_wS (rm2 l Z a0 hw [] wS wT wS wB h0 n0 Zs S_STRING S_BYTES) (by decide) (by decide) eq23 (by rw [hml]; rfl) (rest := []) (Nat.le_of_eq rfl) (by decide) (by decide) (lenOf pd_1 rfl) rfl at_44 (pc' := 47) rfl ?_
      intro T24 v24 L24 X24 hQ24
      obtain ⟨rfl, Nq24, eq24⟩ := hQ24
      have N24 := Fr.app N23 Nq24
      show GolF _ _ _ _ _ _ _ T24 m 47 #[.val (.int p0), .val (.int p1), .val (.int (1 : Int32)), .val (.int (3 : Int32)), .val (.ref wS), .val (.ref wT), .val (.int (0 : Int32))] [(.int (f2 wS wT wS wB))]
      refine Gol.iload X24 hx hby at_47 (pc' := 49) rfl rfl ?_
      refine Gol.icmpNo X24 hx hby at_49 (pc' := 52) rfl (teq (by simp [f2, ne_wB_wT, ne_wB_wT.symm, ne_wI_wB, ne_wI_wB.symm, ne_wI_wS, ne_wI_wS.symm, ne_wI_wT, ne_wI_wT.symm, ne_wS_wB, ne_wS_wB.symm, ne_wS_wT, ne_wS_wT.symm])).2 ?_
      refine Gol.iconst X24 hx hby at_52 (pc' := 53) rfl (z := (1 : Int32)) rfl ?_
      refine Gol.goto X24 hx hby at_53 (pc' := 57) (by decide) ?_
      exact Gol.retN X24 hx hby (t := .boolean) Bd.returns (by simp) Bd.notSynchronized at_57 eq24 ⟨rfl, N24⟩ (by decide) (by decide)
  · rw [hk]
    show GolF _ _ _ _ _ _ _ s₁ m 3 #[.val (.int p0), .val (.int p1), .unset, .unset, .unset, .unset, .unset] [(.int (2 : Int32))]
    refine Gol.istoreN X0 hx hby at_3 (pc' := 4) rfl (l' := #[.val (.int p0), .val (.int p1), .val (.int (2 : Int32)), .unset, .unset, .unset, .unset]) rfl ?_
    refine Gol.iloadN X0 hx hby at_4 (pc' := 5) rfl rfl ?_
    refine Gol.iconst X0 hx hby at_5 (pc' := 6) rfl (z := (3 : Int32)) rfl ?_
    refine Gol.iand X0 hx hby at_6 (pc' := 7) rfl rfl ?_
    rcases own_mask3 p1 with hl | hl | hl | hl
    · rw [hl]
      show GolF _ _ _ _ _ _ _ s₁ m 7 #[.val (.int p0), .val (.int p1), .val (.int (2 : Int32)), .unset, .unset, .unset, .unset] [(.int (0 : Int32))]
      refine Gol.istoreN X0 hx hby at_7 (pc' := 8) rfl (l' := #[.val (.int p0), .val (.int p1), .val (.int (2 : Int32)), .val (.int (0 : Int32)), .unset, .unset, .unset]) rfl ?_
      refine Gol.iloadN X0 hx hby at_8 (pc' := 9) rfl rfl ?_
      refine Gol.callS X0 hx hby hZ hown 0 [(.int (2 : Int32))] (hw _ (List.mem_of_getElem? (i := 0) rfl)) (hw _ (List.mem_of_getElem? (i := 1) rfl)) (hw _ (List.mem_of_getElem? (i := 2) rfl)) (hw _ (List.mem_of_getElem? (i := 3) rfl)) (by decide) (rm1_2 l Z a0 hw [] (2 : Int32) wB h0 n0 Zs rfl S_BYTES) (by decide) (by decide) eh0 (by rw [hml]; rfl) (rest := []) (Nat.le_of_eq rfl) (by decide) (by decide) (lenOf pd_0 rfl) rfl at_9 (pc' := 12) rfl ?_
      intro T25 v25 L25 X25 hQ25
      obtain ⟨rfl, Nq25, eq25⟩ := hQ25
      have N25 := Fr.app N0 Nq25
      show GolF _ _ _ _ _ _ _ T25 m 12 #[.val (.int p0), .val (.int p1), .val (.int (2 : Int32)), .val (.int (0 : Int32)), .unset, .unset, .unset] [(.ref wB)]
      refine Gol.astore X25 hx hby at_12 (pc' := 14) rfl rfl (l' := #[.val (.int p0), .val (.int p1), .val (.int (2 : Int32)), .val (.int (0 : Int32)), .val (.ref wB), .unset, .unset]) rfl ?_
      refine Gol.iloadN X25 hx hby at_14 (pc' := 15) rfl rfl ?_
      refine Gol.callS X25 hx hby hZ hown 0 [(.int (0 : Int32))] (hw _ (List.mem_of_getElem? (i := 0) rfl)) (hw _ (List.mem_of_getElem? (i := 1) rfl)) (hw _ (List.mem_of_getElem? (i := 2) rfl)) (hw _ (List.mem_of_getElem? (i := 3) rfl)) (by decide) (rm1_0 l Z a0 hw [] (0 : Int32) wI h0 n0 Zs rfl S_INT64) (by decide) (by decide) eq25 (by rw [hml]; rfl) (rest := []) (Nat.le_of_eq rfl) (by decide) (by decide) (lenOf pd_0 rfl) rfl at_15 (pc' := 18) rfl ?_
      intro T26 v26 L26 X26 hQ26
      obtain ⟨rfl, Nq26, eq26⟩ := hQ26
      have N26 := Fr.app N25 Nq26
      show GolF _ _ _ _ _ _ _ T26 m 18 #[.val (.int p0), .val (.int p1), .val (.int (2 : Int32)), .val (.int (0 : Int32)), .val (.ref wB), .unset, .unset] [(.ref wI)]
      refine Gol.astore X26 hx hby at_18 (pc' := 20) rfl rfl (l' := #[.val (.int p0), .val (.int p1), .val (.int (2 : Int32)), .val (.int (0 : Int32)), .val (.ref wB), .val (.ref wI), .unset]) rfl ?_
      refine Gol.ldcInt X26 hx hby hZ hown at_20 (pc' := 22) rfl (hw _ (List.mem_of_getElem? (i := 9) rfl)) ?_
      refine Gol.iloadN X26 hx hby at_22 (pc' := 23) rfl rfl ?_
      refine Gol.iconst X26 hx hby at_23 (pc' := 24) rfl (z := (4 : Int32)) rfl ?_
      refine Gol.imul X26 hx hby at_24 (pc' := 25) rfl (z := (8 : Int32)) rfl ?_
      refine Gol.iloadN X26 hx hby at_25 (pc' := 26) rfl rfl ?_
      refine Gol.iadd X26 hx hby at_26 (pc' := 27) rfl (z := (8 : Int32)) rfl ?_
      refine Gol.iushr X26 hx hby at_27 (pc' := 28) rfl (z := (134 : Int32)) rfl ?_
      refine Gol.iconst X26 hx hby at_28 (pc' := 29) rfl (z := (1 : Int32)) rfl ?_
      refine Gol.iand X26 hx hby at_29 (pc' := 30) rfl (z := (0 : Int32)) rfl ?_
      refine Gol.ifYes X26 hx hby at_30 (pc' := 37) (by decide) ((if0 _ _).trans (teq (by decide : (0 : Int32) = (0 : Int32))).1) ?_
      refine Gol.iconst X26 hx hby at_37 (pc' := 38) rfl (z := (0 : Int32)) rfl ?_
      refine Gol.istore X26 hx hby at_38 (pc' := 40) rfl (l' := #[.val (.int p0), .val (.int p1), .val (.int (2 : Int32)), .val (.int (0 : Int32)), .val (.ref wB), .val (.ref wI), .val (.int (0 : Int32))]) rfl ?_
      refine Gol.aload X26 hx hby at_40 (pc' := 42) rfl rfl rfl ?_
      refine Gol.aload X26 hx hby at_42 (pc' := 44) rfl rfl rfl ?_
      refine Gol.callV X26 hx hby hZ hown 0 [(.ref wI)] (a := wB) (hw _ (List.mem_of_getElem? (i := 10) rfl)) (hw _ (List.mem_of_getElem? (i := 11) rfl)) (notFace_of_selects (args := #[]) (mvT hZ (hw _ (List.mem_of_getElem? (i := 21) rfl)))) (hw _ (List.mem_of_getElem? (i := 21) rfl)) (hw _ (List.mem_of_getElem? (i := 12) rfl)) (hw _ (List.mem_of_getElem? (i := 5) rfl)) (hw _ (List.mem_of_getElem? (i := 14) rfl)) (by decide) E_wB (rm2 l Z a0 hw [] wB wI wS wB h0 n0 Zs S_STRING S_BYTES) (by decide) (by decide) eq26 (by rw [hml]; rfl) (rest := []) (Nat.le_of_eq rfl) (by decide) (by decide) (lenOf pd_1 rfl) rfl at_44 (pc' := 47) rfl ?_
      intro T27 v27 L27 X27 hQ27
      obtain ⟨rfl, Nq27, eq27⟩ := hQ27
      have N27 := Fr.app N26 Nq27
      show GolF _ _ _ _ _ _ _ T27 m 47 #[.val (.int p0), .val (.int p1), .val (.int (2 : Int32)), .val (.int (0 : Int32)), .val (.ref wB), .val (.ref wI), .val (.int (0 : Int32))] [(.int (f2 wB wI wS wB))]
      refine Gol.iload X27 hx hby at_47 (pc' := 49) rfl rfl ?_
      refine Gol.icmpNo X27 hx hby at_49 (pc' := 52) rfl (teq (by simp [f2, ne_wB_wT, ne_wB_wT.symm, ne_wI_wB, ne_wI_wB.symm, ne_wI_wS, ne_wI_wS.symm, ne_wI_wT, ne_wI_wT.symm, ne_wS_wB, ne_wS_wB.symm, ne_wS_wT, ne_wS_wT.symm])).2 ?_
      refine Gol.iconst X27 hx hby at_52 (pc' := 53) rfl (z := (1 : Int32)) rfl ?_
      refine Gol.goto X27 hx hby at_53 (pc' := 57) (by decide) ?_
      exact Gol.retN X27 hx hby (t := .boolean) Bd.returns (by simp) Bd.notSynchronized at_57 eq27 ⟨rfl, N27⟩ (by decide) (by decide)
    · rw [hl]
      show GolF _ _ _ _ _ _ _ s₁ m 7 #[.val (.int p0), .val (.int p1), .val (.int (2 : Int32)), .unset, .unset, .unset, .unset] [(.int (1 : Int32))]
      refine Gol.istoreN X0 hx hby at_7 (pc' := 8) rfl (l' := #[.val (.int p0), .val (.int p1), .val (.int (2 : Int32)), .val (.int (1 : Int32)), .unset, .unset, .unset]) rfl ?_
      refine Gol.iloadN X0 hx hby at_8 (pc' := 9) rfl rfl ?_
      refine Gol.callS X0 hx hby hZ hown 0 [(.int (2 : Int32))] (hw _ (List.mem_of_getElem? (i := 0) rfl)) (hw _ (List.mem_of_getElem? (i := 1) rfl)) (hw _ (List.mem_of_getElem? (i := 2) rfl)) (hw _ (List.mem_of_getElem? (i := 3) rfl)) (by decide) (rm1_2 l Z a0 hw [] (2 : Int32) wB h0 n0 Zs rfl S_BYTES) (by decide) (by decide) eh0 (by rw [hml]; rfl) (rest := []) (Nat.le_of_eq rfl) (by decide) (by decide) (lenOf pd_0 rfl) rfl at_9 (pc' := 12) rfl ?_
      intro T28 v28 L28 X28 hQ28
      obtain ⟨rfl, Nq28, eq28⟩ := hQ28
      have N28 := Fr.app N0 Nq28
      show GolF _ _ _ _ _ _ _ T28 m 12 #[.val (.int p0), .val (.int p1), .val (.int (2 : Int32)), .val (.int (1 : Int32)), .unset, .unset, .unset] [(.ref wB)]
      refine Gol.astore X28 hx hby at_12 (pc' := 14) rfl rfl (l' := #[.val (.int p0), .val (.int p1), .val (.int (2 : Int32)), .val (.int (1 : Int32)), .val (.ref wB), .unset, .unset]) rfl ?_
      refine Gol.iloadN X28 hx hby at_14 (pc' := 15) rfl rfl ?_
      refine Gol.callS X28 hx hby hZ hown 0 [(.int (1 : Int32))] (hw _ (List.mem_of_getElem? (i := 0) rfl)) (hw _ (List.mem_of_getElem? (i := 1) rfl)) (hw _ (List.mem_of_getElem? (i := 2) rfl)) (hw _ (List.mem_of_getElem? (i := 3) rfl)) (by decide) (rm1_1 l Z a0 hw [] (1 : Int32) wS h0 n0 Zs rfl S_STRING) (by decide) (by decide) eq28 (by rw [hml]; rfl) (rest := []) (Nat.le_of_eq rfl) (by decide) (by decide) (lenOf pd_0 rfl) rfl at_15 (pc' := 18) rfl ?_
      intro T29 v29 L29 X29 hQ29
      obtain ⟨rfl, Nq29, eq29⟩ := hQ29
      have N29 := Fr.app N28 Nq29
      show GolF _ _ _ _ _ _ _ T29 m 18 #[.val (.int p0), .val (.int p1), .val (.int (2 : Int32)), .val (.int (1 : Int32)), .val (.ref wB), .unset, .unset] [(.ref wS)]
      refine Gol.astore X29 hx hby at_18 (pc' := 20) rfl rfl (l' := #[.val (.int p0), .val (.int p1), .val (.int (2 : Int32)), .val (.int (1 : Int32)), .val (.ref wB), .val (.ref wS), .unset]) rfl ?_
      refine Gol.ldcInt X29 hx hby hZ hown at_20 (pc' := 22) rfl (hw _ (List.mem_of_getElem? (i := 9) rfl)) ?_
      refine Gol.iloadN X29 hx hby at_22 (pc' := 23) rfl rfl ?_
      refine Gol.iconst X29 hx hby at_23 (pc' := 24) rfl (z := (4 : Int32)) rfl ?_
      refine Gol.imul X29 hx hby at_24 (pc' := 25) rfl (z := (8 : Int32)) rfl ?_
      refine Gol.iloadN X29 hx hby at_25 (pc' := 26) rfl rfl ?_
      refine Gol.iadd X29 hx hby at_26 (pc' := 27) rfl (z := (9 : Int32)) rfl ?_
      refine Gol.iushr X29 hx hby at_27 (pc' := 28) rfl (z := (67 : Int32)) rfl ?_
      refine Gol.iconst X29 hx hby at_28 (pc' := 29) rfl (z := (1 : Int32)) rfl ?_
      refine Gol.iand X29 hx hby at_29 (pc' := 30) rfl (z := (1 : Int32)) rfl ?_
      refine Gol.ifNo X29 hx hby at_30 (pc' := 33) rfl ((if0 _ _).trans (feq (by decide : ¬ ((1 : Int32) = (0 : Int32)))).1) ?_
      refine Gol.iconst X29 hx hby at_33 (pc' := 34) rfl (z := (1 : Int32)) rfl ?_
      refine Gol.goto X29 hx hby at_34 (pc' := 38) (by decide) ?_
      refine Gol.istore X29 hx hby at_38 (pc' := 40) rfl (l' := #[.val (.int p0), .val (.int p1), .val (.int (2 : Int32)), .val (.int (1 : Int32)), .val (.ref wB), .val (.ref wS), .val (.int (1 : Int32))]) rfl ?_
      refine Gol.aload X29 hx hby at_40 (pc' := 42) rfl rfl rfl ?_
      refine Gol.aload X29 hx hby at_42 (pc' := 44) rfl rfl rfl ?_
      refine Gol.callV X29 hx hby hZ hown 0 [(.ref wS)] (a := wB) (hw _ (List.mem_of_getElem? (i := 10) rfl)) (hw _ (List.mem_of_getElem? (i := 11) rfl)) (notFace_of_selects (args := #[]) (mvT hZ (hw _ (List.mem_of_getElem? (i := 21) rfl)))) (hw _ (List.mem_of_getElem? (i := 21) rfl)) (hw _ (List.mem_of_getElem? (i := 12) rfl)) (hw _ (List.mem_of_getElem? (i := 5) rfl)) (hw _ (List.mem_of_getElem? (i := 14) rfl)) (by decide) E_wB (rm2 l Z a0 hw [] wB wS wS wB h0 n0 Zs S_STRING S_BYTES) (by decide) (by decide) eq29 (by rw [hml]; rfl) (rest := []) (Nat.le_of_eq rfl) (by decide) (by decide) (lenOf pd_1 rfl) rfl at_44 (pc' := 47) rfl ?_
      intro T30 v30 L30 X30 hQ30
      obtain ⟨rfl, Nq30, eq30⟩ := hQ30
      have N30 := Fr.app N29 Nq30
      show GolF _ _ _ _ _ _ _ T30 m 47 #[.val (.int p0), .val (.int p1), .val (.int (2 : Int32)), .val (.int (1 : Int32)), .val (.ref wB), .val (.ref wS), .val (.int (1 : Int32))] [(.int (f2 wB wS wS wB))]
      refine Gol.iload X30 hx hby at_47 (pc' := 49) rfl rfl ?_
      refine Gol.icmpNo X30 hx hby at_49 (pc' := 52) rfl (teq (by simp [f2, ne_wB_wT, ne_wB_wT.symm, ne_wI_wB, ne_wI_wB.symm, ne_wI_wS, ne_wI_wS.symm, ne_wI_wT, ne_wI_wT.symm, ne_wS_wB, ne_wS_wB.symm, ne_wS_wT, ne_wS_wT.symm])).2 ?_
      refine Gol.iconst X30 hx hby at_52 (pc' := 53) rfl (z := (1 : Int32)) rfl ?_
      refine Gol.goto X30 hx hby at_53 (pc' := 57) (by decide) ?_
      exact Gol.retN X30 hx hby (t := .boolean) Bd.returns (by simp) Bd.notSynchronized at_57 eq30 ⟨rfl, N30⟩ (by decide) (by decide)
    · rw [hl]
      show GolF _ _ _ _ _ _ _ s₁ m 7 #[.val (.int p0), .val (.int p1), .val (.int (2 : Int32)), .unset, .unset, .unset, .unset] [(.int (2 : Int32))]
      refine Gol.istoreN X0 hx hby at_7 (pc' := 8) rfl (l' := #[.val (.int p0), .val (.int p1), .val (.int (2 : Int32)), .val (.int (2 : Int32)), .unset, .unset, .unset]) rfl ?_
      refine Gol.iloadN X0 hx hby at_8 (pc' := 9) rfl rfl ?_
      refine Gol.callS X0 hx hby hZ hown 0 [(.int (2 : Int32))] (hw _ (List.mem_of_getElem? (i := 0) rfl)) (hw _ (List.mem_of_getElem? (i := 1) rfl)) (hw _ (List.mem_of_getElem? (i := 2) rfl)) (hw _ (List.mem_of_getElem? (i := 3) rfl)) (by decide) (rm1_2 l Z a0 hw [] (2 : Int32) wB h0 n0 Zs rfl S_BYTES) (by decide) (by decide) eh0 (by rw [hml]; rfl) (rest := []) (Nat.le_of_eq rfl) (by decide) (by decide) (lenOf pd_0 rfl) rfl at_9 (pc' := 12) rfl ?_
      intro T31 v31 L31 X31 hQ31
      obtain ⟨rfl, Nq31, eq31⟩ := hQ31
      have N31 := Fr.app N0 Nq31
      show GolF _ _ _ _ _ _ _ T31 m 12 #[.val (.int p0), .val (.int p1), .val (.int (2 : Int32)), .val (.int (2 : Int32)), .unset, .unset, .unset] [(.ref wB)]
      refine Gol.astore X31 hx hby at_12 (pc' := 14) rfl rfl (l' := #[.val (.int p0), .val (.int p1), .val (.int (2 : Int32)), .val (.int (2 : Int32)), .val (.ref wB), .unset, .unset]) rfl ?_
      refine Gol.iloadN X31 hx hby at_14 (pc' := 15) rfl rfl ?_
      refine Gol.callS X31 hx hby hZ hown 0 [(.int (2 : Int32))] (hw _ (List.mem_of_getElem? (i := 0) rfl)) (hw _ (List.mem_of_getElem? (i := 1) rfl)) (hw _ (List.mem_of_getElem? (i := 2) rfl)) (hw _ (List.mem_of_getElem? (i := 3) rfl)) (by decide) (rm1_2 l Z a0 hw [] (2 : Int32) wB h0 n0 Zs rfl S_BYTES) (by decide) (by decide) eq31 (by rw [hml]; rfl) (rest := []) (Nat.le_of_eq rfl) (by decide) (by decide) (lenOf pd_0 rfl) rfl at_15 (pc' := 18) rfl ?_
      intro T32 v32 L32 X32 hQ32
      obtain ⟨rfl, Nq32, eq32⟩ := hQ32
      have N32 := Fr.app N31 Nq32
      show GolF _ _ _ _ _ _ _ T32 m 18 #[.val (.int p0), .val (.int p1), .val (.int (2 : Int32)), .val (.int (2 : Int32)), .val (.ref wB), .unset, .unset] [(.ref wB)]
      refine Gol.astore X32 hx hby at_18 (pc' := 20) rfl rfl (l' := #[.val (.int p0), .val (.int p1), .val (.int (2 : Int32)), .val (.int (2 : Int32)), .val (.ref wB), .val (.ref wB), .unset]) rfl ?_
      refine Gol.ldcInt X32 hx hby hZ hown at_20 (pc' := 22) rfl (hw _ (List.mem_of_getElem? (i := 9) rfl)) ?_
      refine Gol.iloadN X32 hx hby at_22 (pc' := 23) rfl rfl ?_
      refine Gol.iconst X32 hx hby at_23 (pc' := 24) rfl (z := (4 : Int32)) rfl ?_
      refine Gol.imul X32 hx hby at_24 (pc' := 25) rfl (z := (8 : Int32)) rfl ?_
      refine Gol.iloadN X32 hx hby at_25 (pc' := 26) rfl rfl ?_
      refine Gol.iadd X32 hx hby at_26 (pc' := 27) rfl (z := (10 : Int32)) rfl ?_
      refine Gol.iushr X32 hx hby at_27 (pc' := 28) rfl (z := (33 : Int32)) rfl ?_
      refine Gol.iconst X32 hx hby at_28 (pc' := 29) rfl (z := (1 : Int32)) rfl ?_
      refine Gol.iand X32 hx hby at_29 (pc' := 30) rfl (z := (1 : Int32)) rfl ?_
      refine Gol.ifNo X32 hx hby at_30 (pc' := 33) rfl ((if0 _ _).trans (feq (by decide : ¬ ((1 : Int32) = (0 : Int32)))).1) ?_
      refine Gol.iconst X32 hx hby at_33 (pc' := 34) rfl (z := (1 : Int32)) rfl ?_
      refine Gol.goto X32 hx hby at_34 (pc' := 38) (by decide) ?_
      refine Gol.istore X32 hx hby at_38 (pc' := 40) rfl (l' := #[.val (.int p0), .val (.int p1), .val (.int (2 : Int32)), .val (.int (2 : Int32)), .val (.ref wB), .val (.ref wB), .val (.int (1 : Int32))]) rfl ?_
      refine Gol.aload X32 hx hby at_40 (pc' := 42) rfl rfl rfl ?_
      refine Gol.aload X32 hx hby at_42 (pc' := 44) rfl rfl rfl ?_
      refine Gol.callV X32 hx hby hZ hown 0 [(.ref wB)] (a := wB) (hw _ (List.mem_of_getElem? (i := 10) rfl)) (hw _ (List.mem_of_getElem? (i := 11) rfl)) (notFace_of_selects (args := #[]) (mvT hZ (hw _ (List.mem_of_getElem? (i := 21) rfl)))) (hw _ (List.mem_of_getElem? (i := 21) rfl)) (hw _ (List.mem_of_getElem? (i := 12) rfl)) (hw _ (List.mem_of_getElem? (i := 5) rfl)) (hw _ (List.mem_of_getElem? (i := 14) rfl)) (by decide) E_wB (rm2 l Z a0 hw [] wB wB wS wB h0 n0 Zs S_STRING S_BYTES) (by decide) (by decide) eq32 (by rw [hml]; rfl) (rest := []) (Nat.le_of_eq rfl) (by decide) (by decide) (lenOf pd_1 rfl) rfl at_44 (pc' := 47) rfl ?_
      intro T33 v33 L33 X33 hQ33
      obtain ⟨rfl, Nq33, eq33⟩ := hQ33
      have N33 := Fr.app N32 Nq33
      show GolF _ _ _ _ _ _ _ T33 m 47 #[.val (.int p0), .val (.int p1), .val (.int (2 : Int32)), .val (.int (2 : Int32)), .val (.ref wB), .val (.ref wB), .val (.int (1 : Int32))] [(.int (f2 wB wB wS wB))]
      refine Gol.iload X33 hx hby at_47 (pc' := 49) rfl rfl ?_
      refine Gol.icmpNo X33 hx hby at_49 (pc' := 52) rfl (teq (by simp [f2, ne_wB_wT, ne_wB_wT.symm, ne_wI_wB, ne_wI_wB.symm, ne_wI_wS, ne_wI_wS.symm, ne_wI_wT, ne_wI_wT.symm, ne_wS_wB, ne_wS_wB.symm, ne_wS_wT, ne_wS_wT.symm])).2 ?_
      refine Gol.iconst X33 hx hby at_52 (pc' := 53) rfl (z := (1 : Int32)) rfl ?_
      refine Gol.goto X33 hx hby at_53 (pc' := 57) (by decide) ?_
      exact Gol.retN X33 hx hby (t := .boolean) Bd.returns (by simp) Bd.notSynchronized at_57 eq33 ⟨rfl, N33⟩ (by decide) (by decide)
    · rw [hl]
      show GolF _ _ _ _ _ _ _ s₁ m 7 #[.val (.int p0), .val (.int p1), .val (.int (2 : Int32)), .unset, .unset, .unset, .unset] [(.int (3 : Int32))]
      refine Gol.istoreN X0 hx hby at_7 (pc' := 8) rfl (l' := #[.val (.int p0), .val (.int p1), .val (.int (2 : Int32)), .val (.int (3 : Int32)), .unset, .unset, .unset]) rfl ?_
      refine Gol.iloadN X0 hx hby at_8 (pc' := 9) rfl rfl ?_
      refine Gol.callS X0 hx hby hZ hown 0 [(.int (2 : Int32))] (hw _ (List.mem_of_getElem? (i := 0) rfl)) (hw _ (List.mem_of_getElem? (i := 1) rfl)) (hw _ (List.mem_of_getElem? (i := 2) rfl)) (hw _ (List.mem_of_getElem? (i := 3) rfl)) (by decide) (rm1_2 l Z a0 hw [] (2 : Int32) wB h0 n0 Zs rfl S_BYTES) (by decide) (by decide) eh0 (by rw [hml]; rfl) (rest := []) (Nat.le_of_eq rfl) (by decide) (by decide) (lenOf pd_0 rfl) rfl at_9 (pc' := 12) rfl ?_
      intro T34 v34 L34 X34 hQ34
      obtain ⟨rfl, Nq34, eq34⟩ := hQ34
      have N34 := Fr.app N0 Nq34
      show GolF _ _ _ _ _ _ _ T34 m 12 #[.val (.int p0), .val (.int p1), .val (.int (2 : Int32)), .val (.int (3 : Int32)), .unset, .unset, .unset] [(.ref wB)]
      refine Gol.astore X34 hx hby at_12 (pc' := 14) rfl rfl (l' := #[.val (.int p0), .val (.int p1), .val (.int (2 : Int32)), .val (.int (3 : Int32)), .val (.ref wB), .unset, .unset]) rfl ?_
      refine Gol.iloadN X34 hx hby at_14 (pc' := 15) rfl rfl ?_
      refine Gol.callS X34 hx hby hZ hown 0 [(.int (3 : Int32))] (hw _ (List.mem_of_getElem? (i := 0) rfl)) (hw _ (List.mem_of_getElem? (i := 1) rfl)) (hw _ (List.mem_of_getElem? (i := 2) rfl)) (hw _ (List.mem_of_getElem? (i := 3) rfl)) (by decide) (rm1_3 l Z a0 hw [] (3 : Int32) wT h0 n0 Zs rfl S_TIMESTAMP) (by decide) (by decide) eq34 (by rw [hml]; rfl) (rest := []) (Nat.le_of_eq rfl) (by decide) (by decide) (lenOf pd_0 rfl) rfl at_15 (pc' := 18) rfl ?_
      intro T35 v35 L35 X35 hQ35
      obtain ⟨rfl, Nq35, eq35⟩ := hQ35
      have N35 := Fr.app N34 Nq35
      show GolF _ _ _ _ _ _ _ T35 m 18 #[.val (.int p0), .val (.int p1), .val (.int (2 : Int32)), .val (.int (3 : Int32)), .val (.ref wB), .unset, .unset] [(.ref wT)]
      refine Gol.astore X35 hx hby at_18 (pc' := 20) rfl rfl (l' := #[.val (.int p0), .val (.int p1), .val (.int (2 : Int32)), .val (.int (3 : Int32)), .val (.ref wB), .val (.ref wT), .unset]) rfl ?_
      refine Gol.ldcInt X35 hx hby hZ hown at_20 (pc' := 22) rfl (hw _ (List.mem_of_getElem? (i := 9) rfl)) ?_
      refine Gol.iloadN X35 hx hby at_22 (pc' := 23) rfl rfl ?_
      refine Gol.iconst X35 hx hby at_23 (pc' := 24) rfl (z := (4 : Int32)) rfl ?_
      refine Gol.imul X35 hx hby at_24 (pc' := 25) rfl (z := (8 : Int32)) rfl ?_
      refine Gol.iloadN X35 hx hby at_25 (pc' := 26) rfl rfl ?_
      refine Gol.iadd X35 hx hby at_26 (pc' := 27) rfl (z := (11 : Int32)) rfl ?_
      refine Gol.iushr X35 hx hby at_27 (pc' := 28) rfl (z := (16 : Int32)) rfl ?_
      refine Gol.iconst X35 hx hby at_28 (pc' := 29) rfl (z := (1 : Int32)) rfl ?_
      refine Gol.iand X35 hx hby at_29 (pc' := 30) rfl (z := (0 : Int32)) rfl ?_
      refine Gol.ifYes X35 hx hby at_30 (pc' := 37) (by decide) ((if0 _ _).trans (teq (by decide : (0 : Int32) = (0 : Int32))).1) ?_
      refine Gol.iconst X35 hx hby at_37 (pc' := 38) rfl (z := (0 : Int32)) rfl ?_
      refine Gol.istore X35 hx hby at_38 (pc' := 40) rfl (l' := #[.val (.int p0), .val (.int p1), .val (.int (2 : Int32)), .val (.int (3 : Int32)), .val (.ref wB), .val (.ref wT), .val (.int (0 : Int32))]) rfl ?_
      refine Gol.aload X35 hx hby at_40 (pc' := 42) rfl rfl rfl ?_
      refine Gol.aload X35 hx hby at_42 (pc' := 44) rfl rfl rfl ?_
      refine Gol.callV X35 hx hby hZ hown 0 [(.ref wT)] (a := wB) (hw _ (List.mem_of_getElem? (i := 10) rfl)) (hw _ (List.mem_of_getElem? (i := 11) rfl)) (notFace_of_selects (args := #[]) (mvT hZ (hw _ (List.mem_of_getElem? (i := 21) rfl)))) (hw _ (List.mem_of_getElem? (i := 21) rfl)) (hw _ (List.mem_of_getElem? (i := 12) rfl)) (hw _ (List.mem_of_getElem? (i := 5) rfl)) (hw _ (List.mem_of_getElem? (i := 14) rfl)) (by decide) E_wB (rm2 l Z a0 hw [] wB wT wS wB h0 n0 Zs S_STRING S_BYTES) (by decide) (by decide) eq35 (by rw [hml]; rfl) (rest := []) (Nat.le_of_eq rfl) (by decide) (by decide) (lenOf pd_1 rfl) rfl at_44 (pc' := 47) rfl ?_
      intro T36 v36 L36 X36 hQ36
      obtain ⟨rfl, Nq36, eq36⟩ := hQ36
      have N36 := Fr.app N35 Nq36
      show GolF _ _ _ _ _ _ _ T36 m 47 #[.val (.int p0), .val (.int p1), .val (.int (2 : Int32)), .val (.int (3 : Int32)), .val (.ref wB), .val (.ref wT), .val (.int (0 : Int32))] [(.int (f2 wB wT wS wB))]
      refine Gol.iload X36 hx hby at_47 (pc' := 49) rfl rfl ?_
      refine Gol.icmpNo X36 hx hby at_49 (pc' := 52) rfl (teq (by simp [f2, ne_wB_wT, ne_wB_wT.symm, ne_wI_wB, ne_wI_wB.symm, ne_wI_wS, ne_wI_wS.symm, ne_wI_wT, ne_wI_wT.symm, ne_wS_wB, ne_wS_wB.symm, ne_wS_wT, ne_wS_wT.symm])).2 ?_
      refine Gol.iconst X36 hx hby at_52 (pc' := 53) rfl (z := (1 : Int32)) rfl ?_
      refine Gol.goto X36 hx hby at_53 (pc' := 57) (by decide) ?_
      exact Gol.retN X36 hx hby (t := .boolean) Bd.returns (by simp) Bd.notSynchronized at_57 eq36 ⟨rfl, N36⟩ (by decide) (by decide)
  · rw [hk]
    show GolF _ _ _ _ _ _ _ s₁ m 3 #[.val (.int p0), .val (.int p1), .unset, .unset, .unset, .unset, .unset] [(.int (3 : Int32))]
    refine Gol.istoreN X0 hx hby at_3 (pc' := 4) rfl (l' := #[.val (.int p0), .val (.int p1), .val (.int (3 : Int32)), .unset, .unset, .unset, .unset]) rfl ?_
    refine Gol.iloadN X0 hx hby at_4 (pc' := 5) rfl rfl ?_
    refine Gol.iconst X0 hx hby at_5 (pc' := 6) rfl (z := (3 : Int32)) rfl ?_
    refine Gol.iand X0 hx hby at_6 (pc' := 7) rfl rfl ?_
    rcases own_mask3 p1 with hl | hl | hl | hl
    · rw [hl]
      show GolF _ _ _ _ _ _ _ s₁ m 7 #[.val (.int p0), .val (.int p1), .val (.int (3 : Int32)), .unset, .unset, .unset, .unset] [(.int (0 : Int32))]
      refine Gol.istoreN X0 hx hby at_7 (pc' := 8) rfl (l' := #[.val (.int p0), .val (.int p1), .val (.int (3 : Int32)), .val (.int (0 : Int32)), .unset, .unset, .unset]) rfl ?_
      refine Gol.iloadN X0 hx hby at_8 (pc' := 9) rfl rfl ?_
      refine Gol.callS X0 hx hby hZ hown 0 [(.int (3 : Int32))] (hw _ (List.mem_of_getElem? (i := 0) rfl)) (hw _ (List.mem_of_getElem? (i := 1) rfl)) (hw _ (List.mem_of_getElem? (i := 2) rfl)) (hw _ (List.mem_of_getElem? (i := 3) rfl)) (by decide) (rm1_3 l Z a0 hw [] (3 : Int32) wT h0 n0 Zs rfl S_TIMESTAMP) (by decide) (by decide) eh0 (by rw [hml]; rfl) (rest := []) (Nat.le_of_eq rfl) (by decide) (by decide) (lenOf pd_0 rfl) rfl at_9 (pc' := 12) rfl ?_
      intro T37 v37 L37 X37 hQ37
      obtain ⟨rfl, Nq37, eq37⟩ := hQ37
      have N37 := Fr.app N0 Nq37
      show GolF _ _ _ _ _ _ _ T37 m 12 #[.val (.int p0), .val (.int p1), .val (.int (3 : Int32)), .val (.int (0 : Int32)), .unset, .unset, .unset] [(.ref wT)]
      refine Gol.astore X37 hx hby at_12 (pc' := 14) rfl rfl (l' := #[.val (.int p0), .val (.int p1), .val (.int (3 : Int32)), .val (.int (0 : Int32)), .val (.ref wT), .unset, .unset]) rfl ?_
      refine Gol.iloadN X37 hx hby at_14 (pc' := 15) rfl rfl ?_
      refine Gol.callS X37 hx hby hZ hown 0 [(.int (0 : Int32))] (hw _ (List.mem_of_getElem? (i := 0) rfl)) (hw _ (List.mem_of_getElem? (i := 1) rfl)) (hw _ (List.mem_of_getElem? (i := 2) rfl)) (hw _ (List.mem_of_getElem? (i := 3) rfl)) (by decide) (rm1_0 l Z a0 hw [] (0 : Int32) wI h0 n0 Zs rfl S_INT64) (by decide) (by decide) eq37 (by rw [hml]; rfl) (rest := []) (Nat.le_of_eq rfl) (by decide) (by decide) (lenOf pd_0 rfl) rfl at_15 (pc' := 18) rfl ?_
      intro T38 v38 L38 X38 hQ38
      obtain ⟨rfl, Nq38, eq38⟩ := hQ38
      have N38 := Fr.app N37 Nq38
      show GolF _ _ _ _ _ _ _ T38 m 18 #[.val (.int p0), .val (.int p1), .val (.int (3 : Int32)), .val (.int (0 : Int32)), .val (.ref wT), .unset, .unset] [(.ref wI)]
      refine Gol.astore X38 hx hby at_18 (pc' := 20) rfl rfl (l' := #[.val (.int p0), .val (.int p1), .val (.int (3 : Int32)), .val (.int (0 : Int32)), .val (.ref wT), .val (.ref wI), .unset]) rfl ?_
      refine Gol.ldcInt X38 hx hby hZ hown at_20 (pc' := 22) rfl (hw _ (List.mem_of_getElem? (i := 9) rfl)) ?_
      refine Gol.iloadN X38 hx hby at_22 (pc' := 23) rfl rfl ?_
      refine Gol.iconst X38 hx hby at_23 (pc' := 24) rfl (z := (4 : Int32)) rfl ?_
      refine Gol.imul X38 hx hby at_24 (pc' := 25) rfl (z := (12 : Int32)) rfl ?_
      refine Gol.iloadN X38 hx hby at_25 (pc' := 26) rfl rfl ?_
      refine Gol.iadd X38 hx hby at_26 (pc' := 27) rfl (z := (12 : Int32)) rfl ?_
      refine Gol.iushr X38 hx hby at_27 (pc' := 28) rfl (z := (8 : Int32)) rfl ?_
      refine Gol.iconst X38 hx hby at_28 (pc' := 29) rfl (z := (1 : Int32)) rfl ?_
      refine Gol.iand X38 hx hby at_29 (pc' := 30) rfl (z := (0 : Int32)) rfl ?_
      refine Gol.ifYes X38 hx hby at_30 (pc' := 37) (by decide) ((if0 _ _).trans (teq (by decide : (0 : Int32) = (0 : Int32))).1) ?_
      refine Gol.iconst X38 hx hby at_37 (pc' := 38) rfl (z := (0 : Int32)) rfl ?_
      refine Gol.istore X38 hx hby at_38 (pc' := 40) rfl (l' := #[.val (.int p0), .val (.int p1), .val (.int (3 : Int32)), .val (.int (0 : Int32)), .val (.ref wT), .val (.ref wI), .val (.int (0 : Int32))]) rfl ?_
      refine Gol.aload X38 hx hby at_40 (pc' := 42) rfl rfl rfl ?_
      refine Gol.aload X38 hx hby at_42 (pc' := 44) rfl rfl rfl ?_
      refine Gol.callV X38 hx hby hZ hown 0 [(.ref wI)] (a := wT) (hw _ (List.mem_of_getElem? (i := 10) rfl)) (hw _ (List.mem_of_getElem? (i := 11) rfl)) (notFace_of_selects (args := #[]) (mvT hZ (hw _ (List.mem_of_getElem? (i := 23) rfl)))) (hw _ (List.mem_of_getElem? (i := 23) rfl)) (hw _ (List.mem_of_getElem? (i := 12) rfl)) (hw _ (List.mem_of_getElem? (i := 5) rfl)) (hw _ (List.mem_of_getElem? (i := 14) rfl)) (by decide) E_wT (rm2 l Z a0 hw [] wT wI wS wB h0 n0 Zs S_STRING S_BYTES) (by decide) (by decide) eq38 (by rw [hml]; rfl) (rest := []) (Nat.le_of_eq rfl) (by decide) (by decide) (lenOf pd_1 rfl) rfl at_44 (pc' := 47) rfl ?_
      intro T39 v39 L39 X39 hQ39
      obtain ⟨rfl, Nq39, eq39⟩ := hQ39
      have N39 := Fr.app N38 Nq39
      show GolF _ _ _ _ _ _ _ T39 m 47 #[.val (.int p0), .val (.int p1), .val (.int (3 : Int32)), .val (.int (0 : Int32)), .val (.ref wT), .val (.ref wI), .val (.int (0 : Int32))] [(.int (f2 wT wI wS wB))]
      refine Gol.iload X39 hx hby at_47 (pc' := 49) rfl rfl ?_
      refine Gol.icmpNo X39 hx hby at_49 (pc' := 52) rfl (teq (by simp [f2, ne_wB_wT, ne_wB_wT.symm, ne_wI_wB, ne_wI_wB.symm, ne_wI_wS, ne_wI_wS.symm, ne_wI_wT, ne_wI_wT.symm, ne_wS_wB, ne_wS_wB.symm, ne_wS_wT, ne_wS_wT.symm])).2 ?_
      refine Gol.iconst X39 hx hby at_52 (pc' := 53) rfl (z := (1 : Int32)) rfl ?_
      refine Gol.goto X39 hx hby at_53 (pc' := 57) (by decide) ?_
      exact Gol.retN X39 hx hby (t := .boolean) Bd.returns (by simp) Bd.notSynchronized at_57 eq39 ⟨rfl, N39⟩ (by decide) (by decide)
    · rw [hl]
      show GolF _ _ _ _ _ _ _ s₁ m 7 #[.val (.int p0), .val (.int p1), .val (.int (3 : Int32)), .unset, .unset, .unset, .unset] [(.int (1 : Int32))]
      refine Gol.istoreN X0 hx hby at_7 (pc' := 8) rfl (l' := #[.val (.int p0), .val (.int p1), .val (.int (3 : Int32)), .val (.int (1 : Int32)), .unset, .unset, .unset]) rfl ?_
      refine Gol.iloadN X0 hx hby at_8 (pc' := 9) rfl rfl ?_
      refine Gol.callS X0 hx hby hZ hown 0 [(.int (3 : Int32))] (hw _ (List.mem_of_getElem? (i := 0) rfl)) (hw _ (List.mem_of_getElem? (i := 1) rfl)) (hw _ (List.mem_of_getElem? (i := 2) rfl)) (hw _ (List.mem_of_getElem? (i := 3) rfl)) (by decide) (rm1_3 l Z a0 hw [] (3 : Int32) wT h0 n0 Zs rfl S_TIMESTAMP) (by decide) (by decide) eh0 (by rw [hml]; rfl) (rest := []) (Nat.le_of_eq rfl) (by decide) (by decide) (lenOf pd_0 rfl) rfl at_9 (pc' := 12) rfl ?_
      intro T40 v40 L40 X40 hQ40
      obtain ⟨rfl, Nq40, eq40⟩ := hQ40
      have N40 := Fr.app N0 Nq40
      show GolF _ _ _ _ _ _ _ T40 m 12 #[.val (.int p0), .val (.int p1), .val (.int (3 : Int32)), .val (.int (1 : Int32)), .unset, .unset, .unset] [(.ref wT)]
      refine Gol.astore X40 hx hby at_12 (pc' := 14) rfl rfl (l' := #[.val (.int p0), .val (.int p1), .val (.int (3 : Int32)), .val (.int (1 : Int32)), .val (.ref wT), .unset, .unset]) rfl ?_
      refine Gol.iloadN X40 hx hby at_14 (pc' := 15) rfl rfl ?_
      refine Gol.callS X40 hx hby hZ hown 0 [(.int (1 : Int32))] (hw _ (List.mem_of_getElem? (i := 0) rfl)) (hw _ (List.mem_of_getElem? (i := 1) rfl)) (hw _ (List.mem_of_getElem? (i := 2) rfl)) (hw _ (List.mem_of_getElem? (i := 3) rfl)) (by decide) (rm1_1 l Z a0 hw [] (1 : Int32) wS h0 n0 Zs rfl S_STRING) (by decide) (by decide) eq40 (by rw [hml]; rfl) (rest := []) (Nat.le_of_eq rfl) (by decide) (by decide) (lenOf pd_0 rfl) rfl at_15 (pc' := 18) rfl ?_
      intro T41 v41 L41 X41 hQ41
      obtain ⟨rfl, Nq41, eq41⟩ := hQ41
      have N41 := Fr.app N40 Nq41
      show GolF _ _ _ _ _ _ _ T41 m 18 #[.val (.int p0), .val (.int p1), .val (.int (3 : Int32)), .val (.int (1 : Int32)), .val (.ref wT), .unset, .unset] [(.ref wS)]
      refine Gol.astore X41 hx hby at_18 (pc' := 20) rfl rfl (l' := #[.val (.int p0), .val (.int p1), .val (.int (3 : Int32)), .val (.int (1 : Int32)), .val (.ref wT), .val (.ref wS), .unset]) rfl ?_
      refine Gol.ldcInt X41 hx hby hZ hown at_20 (pc' := 22) rfl (hw _ (List.mem_of_getElem? (i := 9) rfl)) ?_
      refine Gol.iloadN X41 hx hby at_22 (pc' := 23) rfl rfl ?_
      refine Gol.iconst X41 hx hby at_23 (pc' := 24) rfl (z := (4 : Int32)) rfl ?_
      refine Gol.imul X41 hx hby at_24 (pc' := 25) rfl (z := (12 : Int32)) rfl ?_
      refine Gol.iloadN X41 hx hby at_25 (pc' := 26) rfl rfl ?_
      refine Gol.iadd X41 hx hby at_26 (pc' := 27) rfl (z := (13 : Int32)) rfl ?_
      refine Gol.iushr X41 hx hby at_27 (pc' := 28) rfl (z := (4 : Int32)) rfl ?_
      refine Gol.iconst X41 hx hby at_28 (pc' := 29) rfl (z := (1 : Int32)) rfl ?_
      refine Gol.iand X41 hx hby at_29 (pc' := 30) rfl (z := (0 : Int32)) rfl ?_
      refine Gol.ifYes X41 hx hby at_30 (pc' := 37) (by decide) ((if0 _ _).trans (teq (by decide : (0 : Int32) = (0 : Int32))).1) ?_
      refine Gol.iconst X41 hx hby at_37 (pc' := 38) rfl (z := (0 : Int32)) rfl ?_
      refine Gol.istore X41 hx hby at_38 (pc' := 40) rfl (l' := #[.val (.int p0), .val (.int p1), .val (.int (3 : Int32)), .val (.int (1 : Int32)), .val (.ref wT), .val (.ref wS), .val (.int (0 : Int32))]) rfl ?_
      refine Gol.aload X41 hx hby at_40 (pc' := 42) rfl rfl rfl ?_
      refine Gol.aload X41 hx hby at_42 (pc' := 44) rfl rfl rfl ?_
      refine Gol.callV X41 hx hby hZ hown 0 [(.ref wS)] (a := wT) (hw _ (List.mem_of_getElem? (i := 10) rfl)) (hw _ (List.mem_of_getElem? (i := 11) rfl)) (notFace_of_selects (args := #[]) (mvT hZ (hw _ (List.mem_of_getElem? (i := 23) rfl)))) (hw _ (List.mem_of_getElem? (i := 23) rfl)) (hw _ (List.mem_of_getElem? (i := 12) rfl)) (hw _ (List.mem_of_getElem? (i := 5) rfl)) (hw _ (List.mem_of_getElem? (i := 14) rfl)) (by decide) E_wT (rm2 l Z a0 hw [] wT wS wS wB h0 n0 Zs S_STRING S_BYTES) (by decide) (by decide) eq41 (by rw [hml]; rfl) (rest := []) (Nat.le_of_eq rfl) (by decide) (by decide) (lenOf pd_1 rfl) rfl at_44 (pc' := 47) rfl ?_
      intro T42 v42 L42 X42 hQ42
      obtain ⟨rfl, Nq42, eq42⟩ := hQ42
      have N42 := Fr.app N41 Nq42
      show GolF _ _ _ _ _ _ _ T42 m 47 #[.val (.int p0), .val (.int p1), .val (.int (3 : Int32)), .val (.int (1 : Int32)), .val (.ref wT), .val (.ref wS), .val (.int (0 : Int32))] [(.int (f2 wT wS wS wB))]
      refine Gol.iload X42 hx hby at_47 (pc' := 49) rfl rfl ?_
      refine Gol.icmpNo X42 hx hby at_49 (pc' := 52) rfl (teq (by simp [f2, ne_wB_wT, ne_wB_wT.symm, ne_wI_wB, ne_wI_wB.symm, ne_wI_wS, ne_wI_wS.symm, ne_wI_wT, ne_wI_wT.symm, ne_wS_wB, ne_wS_wB.symm, ne_wS_wT, ne_wS_wT.symm])).2 ?_
      refine Gol.iconst X42 hx hby at_52 (pc' := 53) rfl (z := (1 : Int32)) rfl ?_
      refine Gol.goto X42 hx hby at_53 (pc' := 57) (by decide) ?_
      exact Gol.retN X42 hx hby (t := .boolean) Bd.returns (by simp) Bd.notSynchronized at_57 eq42 ⟨rfl, N42⟩ (by decide) (by decide)
    · rw [hl]
      show GolF _ _ _ _ _ _ _ s₁ m 7 #[.val (.int p0), .val (.int p1), .val (.int (3 : Int32)), .unset, .unset, .unset, .unset] [(.int (2 : Int32))]
      refine Gol.istoreN X0 hx hby at_7 (pc' := 8) rfl (l' := #[.val (.int p0), .val (.int p1), .val (.int (3 : Int32)), .val (.int (2 : Int32)), .unset, .unset, .unset]) rfl ?_
      refine Gol.iloadN X0 hx hby at_8 (pc' := 9) rfl rfl ?_
      refine Gol.callS X0 hx hby hZ hown 0 [(.int (3 : Int32))] (hw _ (List.mem_of_getElem? (i := 0) rfl)) (hw _ (List.mem_of_getElem? (i := 1) rfl)) (hw _ (List.mem_of_getElem? (i := 2) rfl)) (hw _ (List.mem_of_getElem? (i := 3) rfl)) (by decide) (rm1_3 l Z a0 hw [] (3 : Int32) wT h0 n0 Zs rfl S_TIMESTAMP) (by decide) (by decide) eh0 (by rw [hml]; rfl) (rest := []) (Nat.le_of_eq rfl) (by decide) (by decide) (lenOf pd_0 rfl) rfl at_9 (pc' := 12) rfl ?_
      intro T43 v43 L43 X43 hQ43
      obtain ⟨rfl, Nq43, eq43⟩ := hQ43
      have N43 := Fr.app N0 Nq43
      show GolF _ _ _ _ _ _ _ T43 m 12 #[.val (.int p0), .val (.int p1), .val (.int (3 : Int32)), .val (.int (2 : Int32)), .unset, .unset, .unset] [(.ref wT)]
      refine Gol.astore X43 hx hby at_12 (pc' := 14) rfl rfl (l' := #[.val (.int p0), .val (.int p1), .val (.int (3 : Int32)), .val (.int (2 : Int32)), .val (.ref wT), .unset, .unset]) rfl ?_
      refine Gol.iloadN X43 hx hby at_14 (pc' := 15) rfl rfl ?_
      refine Gol.callS X43 hx hby hZ hown 0 [(.int (2 : Int32))] (hw _ (List.mem_of_getElem? (i := 0) rfl)) (hw _ (List.mem_of_getElem? (i := 1) rfl)) (hw _ (List.mem_of_getElem? (i := 2) rfl)) (hw _ (List.mem_of_getElem? (i := 3) rfl)) (by decide) (rm1_2 l Z a0 hw [] (2 : Int32) wB h0 n0 Zs rfl S_BYTES) (by decide) (by decide) eq43 (by rw [hml]; rfl) (rest := []) (Nat.le_of_eq rfl) (by decide) (by decide) (lenOf pd_0 rfl) rfl at_15 (pc' := 18) rfl ?_
      intro T44 v44 L44 X44 hQ44
      obtain ⟨rfl, Nq44, eq44⟩ := hQ44
      have N44 := Fr.app N43 Nq44
      show GolF _ _ _ _ _ _ _ T44 m 18 #[.val (.int p0), .val (.int p1), .val (.int (3 : Int32)), .val (.int (2 : Int32)), .val (.ref wT), .unset, .unset] [(.ref wB)]
      refine Gol.astore X44 hx hby at_18 (pc' := 20) rfl rfl (l' := #[.val (.int p0), .val (.int p1), .val (.int (3 : Int32)), .val (.int (2 : Int32)), .val (.ref wT), .val (.ref wB), .unset]) rfl ?_
      refine Gol.ldcInt X44 hx hby hZ hown at_20 (pc' := 22) rfl (hw _ (List.mem_of_getElem? (i := 9) rfl)) ?_
      refine Gol.iloadN X44 hx hby at_22 (pc' := 23) rfl rfl ?_
      refine Gol.iconst X44 hx hby at_23 (pc' := 24) rfl (z := (4 : Int32)) rfl ?_
      refine Gol.imul X44 hx hby at_24 (pc' := 25) rfl (z := (12 : Int32)) rfl ?_
      refine Gol.iloadN X44 hx hby at_25 (pc' := 26) rfl rfl ?_
      refine Gol.iadd X44 hx hby at_26 (pc' := 27) rfl (z := (14 : Int32)) rfl ?_
      refine Gol.iushr X44 hx hby at_27 (pc' := 28) rfl (z := (2 : Int32)) rfl ?_
      refine Gol.iconst X44 hx hby at_28 (pc' := 29) rfl (z := (1 : Int32)) rfl ?_
      refine Gol.iand X44 hx hby at_29 (pc' := 30) rfl (z := (0 : Int32)) rfl ?_
      refine Gol.ifYes X44 hx hby at_30 (pc' := 37) (by decide) ((if0 _ _).trans (teq (by decide : (0 : Int32) = (0 : Int32))).1) ?_
      refine Gol.iconst X44 hx hby at_37 (pc' := 38) rfl (z := (0 : Int32)) rfl ?_
      refine Gol.istore X44 hx hby at_38 (pc' := 40) rfl (l' := #[.val (.int p0), .val (.int p1), .val (.int (3 : Int32)), .val (.int (2 : Int32)), .val (.ref wT), .val (.ref wB), .val (.int (0 : Int32))]) rfl ?_
      refine Gol.aload X44 hx hby at_40 (pc' := 42) rfl rfl rfl ?_
      refine Gol.aload X44 hx hby at_42 (pc' := 44) rfl rfl rfl ?_
      refine Gol.callV X44 hx hby hZ hown 0 [(.ref wB)] (a := wT) (hw _ (List.mem_of_getElem? (i := 10) rfl)) (hw _ (List.mem_of_getElem? (i := 11) rfl)) (notFace_of_selects (args := #[]) (mvT hZ (hw _ (List.mem_of_getElem? (i := 23) rfl)))) (hw _ (List.mem_of_getElem? (i := 23) rfl)) (hw _ (List.mem_of_getElem? (i := 12) rfl)) (hw _ (List.mem_of_getElem? (i := 5) rfl)) (hw _ (List.mem_of_getElem? (i := 14) rfl)) (by decide) E_wT (rm2 l Z a0 hw [] wT wB wS wB h0 n0 Zs S_STRING S_BYTES) (by decide) (by decide) eq44 (by rw [hml]; rfl) (rest := []) (Nat.le_of_eq rfl) (by decide) (by decide) (lenOf pd_1 rfl) rfl at_44 (pc' := 47) rfl ?_
      intro T45 v45 L45 X45 hQ45
      obtain ⟨rfl, Nq45, eq45⟩ := hQ45
      have N45 := Fr.app N44 Nq45
      show GolF _ _ _ _ _ _ _ T45 m 47 #[.val (.int p0), .val (.int p1), .val (.int (3 : Int32)), .val (.int (2 : Int32)), .val (.ref wT), .val (.ref wB), .val (.int (0 : Int32))] [(.int (f2 wT wB wS wB))]
      refine Gol.iload X45 hx hby at_47 (pc' := 49) rfl rfl ?_
      refine Gol.icmpNo X45 hx hby at_49 (pc' := 52) rfl (teq (by simp [f2, ne_wB_wT, ne_wB_wT.symm, ne_wI_wB, ne_wI_wB.symm, ne_wI_wS, ne_wI_wS.symm, ne_wI_wT, ne_wI_wT.symm, ne_wS_wB, ne_wS_wB.symm, ne_wS_wT, ne_wS_wT.symm])).2 ?_
      refine Gol.iconst X45 hx hby at_52 (pc' := 53) rfl (z := (1 : Int32)) rfl ?_
      refine Gol.goto X45 hx hby at_53 (pc' := 57) (by decide) ?_
      exact Gol.retN X45 hx hby (t := .boolean) Bd.returns (by simp) Bd.notSynchronized at_57 eq45 ⟨rfl, N45⟩ (by decide) (by decide)
    · rw [hl]
      show GolF _ _ _ _ _ _ _ s₁ m 7 #[.val (.int p0), .val (.int p1), .val (.int (3 : Int32)), .unset, .unset, .unset, .unset] [(.int (3 : Int32))]
      refine Gol.istoreN X0 hx hby at_7 (pc' := 8) rfl (l' := #[.val (.int p0), .val (.int p1), .val (.int (3 : Int32)), .val (.int (3 : Int32)), .unset, .unset, .unset]) rfl ?_
      refine Gol.iloadN X0 hx hby at_8 (pc' := 9) rfl rfl ?_
      refine Gol.callS X0 hx hby hZ hown 0 [(.int (3 : Int32))] (hw _ (List.mem_of_getElem? (i := 0) rfl)) (hw _ (List.mem_of_getElem? (i := 1) rfl)) (hw _ (List.mem_of_getElem? (i := 2) rfl)) (hw _ (List.mem_of_getElem? (i := 3) rfl)) (by decide) (rm1_3 l Z a0 hw [] (3 : Int32) wT h0 n0 Zs rfl S_TIMESTAMP) (by decide) (by decide) eh0 (by rw [hml]; rfl) (rest := []) (Nat.le_of_eq rfl) (by decide) (by decide) (lenOf pd_0 rfl) rfl at_9 (pc' := 12) rfl ?_
      intro T46 v46 L46 X46 hQ46
      obtain ⟨rfl, Nq46, eq46⟩ := hQ46
      have N46 := Fr.app N0 Nq46
      show GolF _ _ _ _ _ _ _ T46 m 12 #[.val (.int p0), .val (.int p1), .val (.int (3 : Int32)), .val (.int (3 : Int32)), .unset, .unset, .unset] [(.ref wT)]
      refine Gol.astore X46 hx hby at_12 (pc' := 14) rfl rfl (l' := #[.val (.int p0), .val (.int p1), .val (.int (3 : Int32)), .val (.int (3 : Int32)), .val (.ref wT), .unset, .unset]) rfl ?_
      refine Gol.iloadN X46 hx hby at_14 (pc' := 15) rfl rfl ?_
      refine Gol.callS X46 hx hby hZ hown 0 [(.int (3 : Int32))] (hw _ (List.mem_of_getElem? (i := 0) rfl)) (hw _ (List.mem_of_getElem? (i := 1) rfl)) (hw _ (List.mem_of_getElem? (i := 2) rfl)) (hw _ (List.mem_of_getElem? (i := 3) rfl)) (by decide) (rm1_3 l Z a0 hw [] (3 : Int32) wT h0 n0 Zs rfl S_TIMESTAMP) (by decide) (by decide) eq46 (by rw [hml]; rfl) (rest := []) (Nat.le_of_eq rfl) (by decide) (by decide) (lenOf pd_0 rfl) rfl at_15 (pc' := 18) rfl ?_
      intro T47 v47 L47 X47 hQ47
      obtain ⟨rfl, Nq47, eq47⟩ := hQ47
      have N47 := Fr.app N46 Nq47
      show GolF _ _ _ _ _ _ _ T47 m 18 #[.val (.int p0), .val (.int p1), .val (.int (3 : Int32)), .val (.int (3 : Int32)), .val (.ref wT), .unset, .unset] [(.ref wT)]
      refine Gol.astore X47 hx hby at_18 (pc' := 20) rfl rfl (l' := #[.val (.int p0), .val (.int p1), .val (.int (3 : Int32)), .val (.int (3 : Int32)), .val (.ref wT), .val (.ref wT), .unset]) rfl ?_
      refine Gol.ldcInt X47 hx hby hZ hown at_20 (pc' := 22) rfl (hw _ (List.mem_of_getElem? (i := 9) rfl)) ?_
      refine Gol.iloadN X47 hx hby at_22 (pc' := 23) rfl rfl ?_
      refine Gol.iconst X47 hx hby at_23 (pc' := 24) rfl (z := (4 : Int32)) rfl ?_
      refine Gol.imul X47 hx hby at_24 (pc' := 25) rfl (z := (12 : Int32)) rfl ?_
      refine Gol.iloadN X47 hx hby at_25 (pc' := 26) rfl rfl ?_
      refine Gol.iadd X47 hx hby at_26 (pc' := 27) rfl (z := (15 : Int32)) rfl ?_
      refine Gol.iushr X47 hx hby at_27 (pc' := 28) rfl (z := (1 : Int32)) rfl ?_
      refine Gol.iconst X47 hx hby at_28 (pc' := 29) rfl (z := (1 : Int32)) rfl ?_
      refine Gol.iand X47 hx hby at_29 (pc' := 30) rfl (z := (1 : Int32)) rfl ?_
      refine Gol.ifNo X47 hx hby at_30 (pc' := 33) rfl ((if0 _ _).trans (feq (by decide : ¬ ((1 : Int32) = (0 : Int32)))).1) ?_
      refine Gol.iconst X47 hx hby at_33 (pc' := 34) rfl (z := (1 : Int32)) rfl ?_
      refine Gol.goto X47 hx hby at_34 (pc' := 38) (by decide) ?_
      refine Gol.istore X47 hx hby at_38 (pc' := 40) rfl (l' := #[.val (.int p0), .val (.int p1), .val (.int (3 : Int32)), .val (.int (3 : Int32)), .val (.ref wT), .val (.ref wT), .val (.int (1 : Int32))]) rfl ?_
      refine Gol.aload X47 hx hby at_40 (pc' := 42) rfl rfl rfl ?_
      refine Gol.aload X47 hx hby at_42 (pc' := 44) rfl rfl rfl ?_
      refine Gol.callV X47 hx hby hZ hown 0 [(.ref wT)] (a := wT) (hw _ (List.mem_of_getElem? (i := 10) rfl)) (hw _ (List.mem_of_getElem? (i := 11) rfl)) (notFace_of_selects (args := #[]) (mvT hZ (hw _ (List.mem_of_getElem? (i := 23) rfl)))) (hw _ (List.mem_of_getElem? (i := 23) rfl)) (hw _ (List.mem_of_getElem? (i := 12) rfl)) (hw _ (List.mem_of_getElem? (i := 5) rfl)) (hw _ (List.mem_of_getElem? (i := 14) rfl)) (by decide) E_wT (rm2 l Z a0 hw [] wT wT wS wB h0 n0 Zs S_STRING S_BYTES) (by decide) (by decide) eq47 (by rw [hml]; rfl) (rest := []) (Nat.le_of_eq rfl) (by decide) (by decide) (lenOf pd_1 rfl) rfl at_44 (pc' := 47) rfl ?_
      intro T48 v48 L48 X48 hQ48
      obtain ⟨rfl, Nq48, eq48⟩ := hQ48
      have N48 := Fr.app N47 Nq48
      show GolF _ _ _ _ _ _ _ T48 m 47 #[.val (.int p0), .val (.int p1), .val (.int (3 : Int32)), .val (.int (3 : Int32)), .val (.ref wT), .val (.ref wT), .val (.int (1 : Int32))] [(.int (f2 wT wT wS wB))]
      refine Gol.iload X48 hx hby at_47 (pc' := 49) rfl rfl ?_
      refine Gol.icmpNo X48 hx hby at_49 (pc' := 52) rfl (teq (by simp [f2, ne_wB_wT, ne_wB_wT.symm, ne_wI_wB, ne_wI_wB.symm, ne_wI_wS, ne_wI_wS.symm, ne_wI_wT, ne_wI_wT.symm, ne_wS_wB, ne_wS_wB.symm, ne_wS_wT, ne_wS_wT.symm])).2 ?_
      refine Gol.iconst X48 hx hby at_52 (pc' := 53) rfl (z := (1 : Int32)) rfl ?_
      refine Gol.goto X48 hx hby at_53 (pc' := 57) (by decide) ?_
      exact Gol.retN X48 hx hby (t := .boolean) Bd.returns (by simp) Bd.notSynchronized at_57 eq48 ⟨rfl, N48⟩ (by decide) (by decide)
set_option maxRecDepth 65536 in
set_option maxHeartbeats 40000000 in
theorem comes_1 {Post : Tables → Env → Array Value → State → Outcome → State → Prop} (hpost : ∀ tb e args s v u, (limb_1_1.after args s (.returned v) u = true ∧ limb_1_2.after args s (.returned v) u = true ∧ True) → FrameEnd s (.returned v) u (Jvm.fieldLocs frame_1_writes args s ++ Jvm.arrayLocs frame_1_arrays args s ++ Jvm.staticLocs frame_1_statics s) 0 0 → Post tb e args s (.returned v) u) :
    ArmFor flags0 classFile x code maxLocals ret World_1 tables_1 room_1 Calls_1 rest_1 Pre_1 Post := by
  intro l hfl _ _ p e ha hc hk s m args below hf hA hF happ hP
  obtain ⟨hcalls, hrest, hpre⟩ := hP
  obtain ⟨-, -, -, hnamed, -, -, -, hat⟩ := (Spec.applies_iff hf).mp happ
  obtain ⟨hg, hn⟩ := and_e (Cond.before_iff.mp (show (Jvm.Cond.and given_1 narrow_1).before args s = true from hpre))
  obtain ⟨gc, gr0⟩ := and_e hg
  obtain ⟨gk0, gr1⟩ := and_e gr0
  obtain ⟨w0, w1, rfl⟩ : ∃ w0 w1 : Value, args = #[w0, w1] := by
    have hs : args.size = 2 := by simpa [Cond.value, given_1] using gc
    obtain ⟨L⟩ := args
    match L, hs with
    | [w0, w1], _ => exact ⟨w0, w1, rfl⟩
  have hw := fun d (hd : d ∈ tables_1) => atoms_spec (ws := Jvm.Cond.code x code maxLocals ret :: tables_1) hat d (List.mem_cons_of_mem _ hd)
  have hfit : Fit s := fun {y c} hc i hi => by
    obtain ⟨ha, rfl⟩ := Array.getElem?_eq_some_iff.mp hc
    have q := List.all_eq_true.mp ((Array.all_eq_true_iff_forall_mem.mp hF) _ (Array.getElem_mem ha)) i (List.mem_range.mpr hi)
    simpa [Array.getElem?_eq_getElem hi] using q
  obtain ⟨i0, ei0⟩ := is_v gk0
  obtain rfl : w0 = (.int i0) := Option.some.inj ei0
  obtain ⟨i1, ei1⟩ := is_v gr1
  obtain rfl : w1 = (.int i1) := Option.some.inj ei1
  have hn := hn
  obtain ⟨nx0, nr0⟩ := and_e hn
  obtain ⟨w_INT64, _, _, _, ev_INT64, -⟩ := Cond.exactly_spec (Cond.before_iff.mpr nx0)
  have E_INT64 := Exa.start ev_INT64 nx0
  have S_INT64 := Sta.start ev_INT64 (Or.inr ⟨hw _ (List.mem_of_getElem? (i := 5) rfl), hw _ (List.mem_of_getElem? (i := 6) rfl)⟩)
  obtain ⟨nx1, nr1⟩ := and_e nr0
  obtain ⟨w_TIMESTAMP, _, _, _, ev_TIMESTAMP, -⟩ := Cond.exactly_spec (Cond.before_iff.mpr nx1)
  have E_TIMESTAMP := Exa.start ev_TIMESTAMP nx1
  have S_TIMESTAMP := Sta.start ev_TIMESTAMP (Or.inr ⟨hw _ (List.mem_of_getElem? (i := 5) rfl), hw _ (List.mem_of_getElem? (i := 8) rfl)⟩)
  obtain ⟨nx2, nr2⟩ := and_e nr1
  obtain ⟨w_STRING, _, _, _, ev_STRING, -⟩ := Cond.exactly_spec (Cond.before_iff.mpr nx2)
  have E_STRING := Exa.start ev_STRING nx2
  have S_STRING := Sta.start ev_STRING (Or.inr ⟨hw _ (List.mem_of_getElem? (i := 5) rfl), hw _ (List.mem_of_getElem? (i := 16) rfl)⟩)
  obtain ⟨w_BYTES, _, _, _, ev_BYTES, -⟩ := Cond.exactly_spec (Cond.before_iff.mpr nr2)
  have E_BYTES := Exa.start ev_BYTES nr2
  have S_BYTES := Sta.start ev_BYTES (Or.inr ⟨hw _ (List.mem_of_getElem? (i := 5) rfl), hw _ (List.mem_of_getElem? (i := 18) rfl)⟩)
  obtain ⟨n, o, h1, h2, h3, _, L, rfl, ⟨rfl, N⟩, hq⟩ := rm0 l s _ hw tables_1 i0 i1 w_INT64 w_STRING w_BYTES w_TIMESTAMP s.heap s.heap.size (Nat.le_refl _) S_INT64 S_STRING S_BYTES S_TIMESTAMP E_INT64 E_STRING E_BYTES E_TIMESTAMP p e ha hc hk s m _ below hf ((Spec.applies_iff_loose hf).mp happ).1 ⟨rfl, State.Warmed39.refl s, rfl⟩ trivial
  refine ⟨n, _, h1, h2, h3, hpost _ _ _ _ _ _ ⟨Cond.after_iff.mpr rfl, Cond.after_iff.mpr (eq_i res_at (Term.int_eval (1)) rfl), trivial⟩ ⟨hq.1, hq.2.1, (hq.2.2.sift fun y hy => Or.inr (N y hy)).mono (by decide) (by decide)⟩⟩
theorem main_1_1 : Claimed_1_1 := comes_1 fun _ _ _ _ _ _ h hF => ⟨h.1, hF⟩
theorem main_1_2 : Claimed_1_2 := comes_1 fun _ _ _ _ _ _ h hF => ⟨h.2.1, hF⟩
end Jvm.Pilot.@@N@@
namespace Jvm.Pilot.@@N@@
open Jvm Jvm.ClassFile Sem Op Lib Jvm.Free Jvm.Stand Jvm.Pilot.@@N@@.Jvm.D
/-! MADE BY PROGRAM (witnessworld.py) out of the Statement's table words and the real class files: 14 classes; the members and pool entries that the words name. The judged class is class 1, her method 2. -/
namespace start1
open Jvm.ClassFile
def u (s : String) : CpInfo := .utf8 (stringToUtf16 s)
/-- a pool by its gaps: so many unusable entries, then the entry; so many at the end -/
def gap : Nat → List CpInfo → List CpInfo
  | 0, r => r
  | n + 1, r => .unusable :: gap n r
def poolList (es : List (Nat × CpInfo)) (last : Nat) : List CpInfo := es.foldr (fun e r => gap e.1 (e.2 :: r)) (gap last [])
def pool (es : List (Nat × CpInfo)) (last : Nat) : Array CpInfo := ⟨poolList es last⟩
def fileOf (pool : Array CpInfo) (this : Nat) (attrs : Array Attribute := #[]) (ms : Array MethodInfo := #[]) (fl : Nat := 33) (sup : Nat := 0) (ifs : Array Nat := #[]) (fds : Array FieldInfo := #[]) : ClassFile where
  minorVersion := 0
  majorVersion := 65
  constantPool := pool
  accessFlags := fl
  thisClass := this
  superClass := sup
  interfaces := ifs
  fields := fds
  methods := ms
  attributes := attrs
def plain (name : String) (sup : Option ClassId) : Class where
  name := name
  kind := .ordinary
  loader := none
  accessFlags := 33
  super := sup
  interfaces := #[]
  cf := none
  fields := #[]
  methods := #[]
  instanceTypes := #[]
  staticTypes := #[]
  resolved := #[]
  callSites := []
  init := .initialized
  statics := none
  mirror := none

def pool0 : Array CpInfo := pool [(5, u "<init>"), (0, u "()V"), (1, .class_ 10), (1, u "java/lang/Object")] 113

def k0m0 : Method := { name := "<init>", desc := "()V", sig := { parameters := [], returnType := none }, accessFlags := 1, code := none }
/-- java/lang/Object -/
def k0 : Class := { plain "java/lang/Object" none with
  accessFlags := 33
  interfaces := #[]
  cf := some (fileOf pool0 8 #[] #[{ accessFlags := 1, nameIndex := 5, descriptorIndex := 6, attributes := #[] }] 33 0 #[] #[])
  fields := #[]
  methods := #[k0m0]
  instanceTypes := #[]
  staticTypes := #[]
  resolved := Array.replicate 124 none
  statics := none }

def pool1 : Array CpInfo := pool [(2, .class_ 4), (1, u "java/lang/Object"), (0, u "<init>"), (0, u "()V"), (0, .fieldref 8 9), (0, .class_ 10), (0, .nameAndType 11 12), (0, u "com/example/interleaved_tables/interleavedtables/types/Type"), (0, u "INT64"), (0, u "Lcom/example/interleaved_tables/interleavedtables/types/Type;"), (0, .fieldref 8 14), (0, .nameAndType 15 12), (0, u "STRING"), (0, .fieldref 8 17), (0, .nameAndType 18 12), (0, u "BYTES"), (0, .fieldref 8 20), (0, .nameAndType 21 12), (0, u "TIMESTAMP"), (0, .methodref 23 24), (0, .class_ 25), (0, .nameAndType 26 27), (0, u "com/example/interleaved_tables/interleavedtables/types/TypeConvertsToPinLaw"), (0, u "pick"), (0, u "(I)Lcom/example/interleaved_tables/interleavedtables/types/Type;"), (0, .integer 34401), (0, .methodref 8 30), (0, .nameAndType 31 32), (0, u "convertsTo"), (0, u "(Lcom/example/interleaved_tables/interleavedtables/types/Type;)Z"), (0, u "TABLE"), (0, u "I"), (4, u "law"), (0, u "(II)Z")] 2

def k1m0 : Method := { name := "<init>", desc := "()V", sig := { parameters := [], returnType := none }, accessFlags := 2, code := none }
def k1c1 : Code := { maxStack := 2, maxLocals := 1, code := method_2_code, exceptionTable := #[], attributes := #[] }
def k1m1 : Method := { name := "pick", desc := "(I)Lcom/example/interleaved_tables/interleavedtables/types/Type;", sig := { parameters := [.int], returnType := some (.object "com/example/interleaved_tables/interleavedtables/types/Type") }, accessFlags := 10, code := some k1c1 }
def k1c2 : Code := { maxStack := 3, maxLocals := 7, code := code, exceptionTable := #[], attributes := #[] }
def k1m2 : Method := { name := "law", desc := "(II)Z", sig := { parameters := [.int, .int], returnType := some .boolean }, accessFlags := 9, code := some k1c2 }
/-- com/example/interleaved_tables/interleavedtables/types/TypeConvertsToPinLaw -/
def k1 : Class := { plain "com/example/interleaved_tables/interleavedtables/types/TypeConvertsToPinLaw" (some 0) with
  accessFlags := 49
  interfaces := #[]
  cf := some (fileOf pool1 23 #[] #[{ accessFlags := 2, nameIndex := 5, descriptorIndex := 6, attributes := #[] }, { accessFlags := 10, nameIndex := 26, descriptorIndex := 27, attributes := #[] }, { accessFlags := 9, nameIndex := 39, descriptorIndex := 40, attributes := #[] }] 49 2 #[] #[{ accessFlags := 26, nameIndex := 33, descriptorIndex := 34, attributes := #[] }])
  fields := #[{ name := "TABLE", type := .int, accessFlags := 26, slot := 0, constantValue := 0 }]
  methods := #[k1m0, k1m1, k1m2]
  instanceTypes := #[]
  staticTypes := #[.int]
  resolved := Array.replicate 43 none
  statics := none }

def pool2 : Array CpInfo := pool [(1, .class_ 2), (0, u "java/lang/constant/Constable"), (0, .class_ 4), (0, u "java/lang/Object")] 6

/-- java/lang/constant/Constable -/
def k2 : Class := { plain "java/lang/constant/Constable" (some 0) with
  accessFlags := 1537
  interfaces := #[]
  cf := some (fileOf pool2 1 #[] #[] 1537 3 #[] #[])
  fields := #[]
  methods := #[]
  instanceTypes := #[]
  staticTypes := #[]
  resolved := Array.replicate 11 none
  statics := none }

def pool3 : Array CpInfo := pool [(1, .class_ 2), (0, u "java/lang/Comparable"), (0, .class_ 4), (0, u "java/lang/Object")] 7

/-- java/lang/Comparable -/
def k3 : Class := { plain "java/lang/Comparable" (some 0) with
  accessFlags := 1537
  interfaces := #[]
  cf := some (fileOf pool3 1 #[] #[] 1537 3 #[] #[])
  fields := #[]
  methods := #[]
  instanceTypes := #[]
  staticTypes := #[]
  resolved := Array.replicate 12 none
  statics := none }

def pool4 : Array CpInfo := pool [(1, .class_ 2), (0, u "java/io/Serializable"), (0, .class_ 4), (0, u "java/lang/Object")] 2

/-- java/io/Serializable -/
def k4 : Class := { plain "java/io/Serializable" (some 0) with
  accessFlags := 1537
  interfaces := #[]
  cf := some (fileOf pool4 1 #[] #[] 1537 3 #[] #[])
  fields := #[]
  methods := #[]
  instanceTypes := #[]
  staticTypes := #[]
  resolved := Array.replicate 7 none
  statics := none }

def pool5 : Array CpInfo := pool [(2, .class_ 4), (1, u "java/lang/Enum"), (0, u "name"), (0, u "Ljava/lang/String;"), (2, u "ordinal"), (0, u "I"), (1, .class_ 14), (1, u "java/lang/Object"), (4, u "hash"), (86, .class_ 108), (1, u "java/lang/Enum$EnumDesc"), (2, .class_ 112), (0, u "java/lang/constant/Constable"), (0, .class_ 114), (0, u "java/lang/Comparable"), (0, .class_ 116), (0, u "java/io/Serializable")] 87

/-- java/lang/Enum -/
def k5 : Class := { plain "java/lang/Enum" (some 0) with
  accessFlags := 1057
  interfaces := #[2, 3, 4]
  cf := some (fileOf pool5 2 #[.nestMembers #[106]] #[] 1057 12 #[111, 113, 115] #[{ accessFlags := 18, nameIndex := 5, descriptorIndex := 6, attributes := #[] }, { accessFlags := 18, nameIndex := 9, descriptorIndex := 10, attributes := #[] }, { accessFlags := 2, nameIndex := 19, descriptorIndex := 10, attributes := #[] }])
  fields := #[{ name := "name", type := (.object "java/lang/String"), accessFlags := 18, slot := 0, constantValue := 0 }, { name := "ordinal", type := .int, accessFlags := 18, slot := 1, constantValue := 0 }, { name := "hash", type := .int, accessFlags := 2, slot := 2, constantValue := 0 }]
  methods := #[]
  instanceTypes := #[(.object "java/lang/String"), .int, .int]
  staticTypes := #[]
  resolved := Array.replicate 204 none
  statics := none }

def pool6 : Array CpInfo := pool [(1, .class_ 2), (0, u "com/example/interleaved_tables/interleavedtables/types/Type"), (2, u "INT64"), (0, u "Lcom/example/interleaved_tables/interleavedtables/types/Type;"), (0, .fieldref 1 8), (0, .nameAndType 9 6), (0, u "STRING"), (0, .fieldref 1 11), (0, .nameAndType 12 6), (0, u "BYTES"), (2, u "TIMESTAMP"), (2, u "$VALUES"), (0, u "[Lcom/example/interleaved_tables/interleavedtables/types/Type;"), (6, .class_ 28), (1, u "java/lang/Enum"), (8, u "lengthUnit"), (0, u "Ljava/lang/String;"), (2, u "valueClass"), (0, u "Ljava/lang/Class;"), (52, u "convertsTo"), (0, u "(Lcom/example/interleaved_tables/interleavedtables/types/Type;)Z"), (161, u "LONGS"), (0, u "Ljava/lang/invoke/VarHandle;"), (22, .class_ 283), (0, u "com/example/interleaved_tables/interleavedtables/types/Type$1"), (4, .class_ 289), (0, u "com/example/interleaved_tables/interleavedtables/types/Type$2"), (4, .class_ 295), (0, u "com/example/interleaved_tables/interleavedtables/types/Type$3"), (4, .class_ 301), (0, u "com/example/interleaved_tables/interleavedtables/types/Type$4"), (39, u "FIRST_TIMESTAMP"), (0, u "Ljava/time/Instant;"), (6, u "LAST_TIMESTAMP"), (38, u "TIMESTAMP_READER"), (0, u "Ljava/time/format/DateTimeFormatter;"), (6, u "TIMESTAMP_WRITER"), (0, u "NULL"), (0, u "I"), (2, u "NOT_NULL"), (1, u "ESCAPED"), (1, u "END")] 56

def k6c0 : Code := { maxStack := 2, maxLocals := 2, code := prog_83_method_12_code, exceptionTable := #[], attributes := #[] }
def k6m0 : Method := { name := "convertsTo", desc := "(Lcom/example/interleaved_tables/interleavedtables/types/Type;)Z", sig := { parameters := [(.object "com/example/interleaved_tables/interleavedtables/types/Type")], returnType := some .boolean }, accessFlags := 1, code := some k6c0 }
/-- com/example/interleaved_tables/interleavedtables/types/Type -/
def k6 : Class := { plain "com/example/interleaved_tables/interleavedtables/types/Type" (some 5) with
  accessFlags := 17441
  interfaces := #[]
  cf := some (fileOf pool6 1 #[.nestMembers #[300, 294, 288, 282]] #[{ accessFlags := 1, nameIndex := 95, descriptorIndex := 96, attributes := #[] }] 17441 26 #[] #[{ accessFlags := 16409, nameIndex := 5, descriptorIndex := 6, attributes := #[] }, { accessFlags := 16409, nameIndex := 9, descriptorIndex := 6, attributes := #[] }, { accessFlags := 16409, nameIndex := 12, descriptorIndex := 6, attributes := #[] }, { accessFlags := 16409, nameIndex := 15, descriptorIndex := 6, attributes := #[] }, { accessFlags := 24, nameIndex := 397, descriptorIndex := 398, attributes := #[] }, { accessFlags := 24, nameIndex := 401, descriptorIndex := 398, attributes := #[] }, { accessFlags := 26, nameIndex := 403, descriptorIndex := 398, attributes := #[] }, { accessFlags := 26, nameIndex := 405, descriptorIndex := 398, attributes := #[] }, { accessFlags := 26, nameIndex := 258, descriptorIndex := 259, attributes := #[] }, { accessFlags := 26, nameIndex := 341, descriptorIndex := 342, attributes := #[] }, { accessFlags := 26, nameIndex := 349, descriptorIndex := 342, attributes := #[] }, { accessFlags := 26, nameIndex := 388, descriptorIndex := 389, attributes := #[] }, { accessFlags := 26, nameIndex := 396, descriptorIndex := 389, attributes := #[] }, { accessFlags := 18, nameIndex := 37, descriptorIndex := 38, attributes := #[] }, { accessFlags := 18, nameIndex := 41, descriptorIndex := 42, attributes := #[] }, { accessFlags := 4122, nameIndex := 18, descriptorIndex := 19, attributes := #[] }])
  fields := #[{ name := "INT64", type := (.object "com/example/interleaved_tables/interleavedtables/types/Type"), accessFlags := 16409, slot := 0, constantValue := 0 }, { name := "STRING", type := (.object "com/example/interleaved_tables/interleavedtables/types/Type"), accessFlags := 16409, slot := 1, constantValue := 0 }, { name := "BYTES", type := (.object "com/example/interleaved_tables/interleavedtables/types/Type"), accessFlags := 16409, slot := 2, constantValue := 0 }, { name := "TIMESTAMP", type := (.object "com/example/interleaved_tables/interleavedtables/types/Type"), accessFlags := 16409, slot := 3, constantValue := 0 }, { name := "NULL", type := .int, accessFlags := 24, slot := 4, constantValue := 0 }, { name := "NOT_NULL", type := .int, accessFlags := 24, slot := 5, constantValue := 0 }, { name := "ESCAPED", type := .int, accessFlags := 26, slot := 6, constantValue := 0 }, { name := "END", type := .int, accessFlags := 26, slot := 7, constantValue := 0 }, { name := "LONGS", type := (.object "java/lang/invoke/VarHandle"), accessFlags := 26, slot := 8, constantValue := 0 }, { name := "FIRST_TIMESTAMP", type := (.object "java/time/Instant"), accessFlags := 26, slot := 9, constantValue := 0 }, { name := "LAST_TIMESTAMP", type := (.object "java/time/Instant"), accessFlags := 26, slot := 10, constantValue := 0 }, { name := "TIMESTAMP_READER", type := (.object "java/time/format/DateTimeFormatter"), accessFlags := 26, slot := 11, constantValue := 0 }, { name := "TIMESTAMP_WRITER", type := (.object "java/time/format/DateTimeFormatter"), accessFlags := 26, slot := 12, constantValue := 0 }, { name := "lengthUnit", type := (.object "java/lang/String"), accessFlags := 18, slot := 3, constantValue := 0 }, { name := "valueClass", type := (.object "java/lang/Class"), accessFlags := 18, slot := 4, constantValue := 0 }, { name := "$VALUES", type := (.array (.object "com/example/interleaved_tables/interleavedtables/types/Type")), accessFlags := 4122, slot := 13, constantValue := 0 }]
  methods := #[k6m0]
  instanceTypes := #[(.object "java/lang/String"), .int, .int, (.object "java/lang/String"), (.object "java/lang/Class")]
  staticTypes := #[(.object "com/example/interleaved_tables/interleavedtables/types/Type"), (.object "com/example/interleaved_tables/interleavedtables/types/Type"), (.object "com/example/interleaved_tables/interleavedtables/types/Type"), (.object "com/example/interleaved_tables/interleavedtables/types/Type"), .int, .int, .int, .int, (.object "java/lang/invoke/VarHandle"), (.object "java/time/Instant"), (.object "java/time/Instant"), (.object "java/time/format/DateTimeFormatter"), (.object "java/time/format/DateTimeFormatter"), (.array (.object "com/example/interleaved_tables/interleavedtables/types/Type"))]
  resolved := Array.replicate 462 none
  statics := some 0 }

def pool7 : Array CpInfo := pool [(2, .class_ 4), (1, u "com/example/interleaved_tables/interleavedtables/types/Type"), (49, .class_ 55), (0, u "com/example/interleaved_tables/interleavedtables/types/Type$1")] 33

/-- com/example/interleaved_tables/interleavedtables/types/Type$1 -/
def k7 : Class := { plain "com/example/interleaved_tables/interleavedtables/types/Type$1" (some 6) with
  accessFlags := 16432
  interfaces := #[]
  cf := some (fileOf pool7 54 #[.nestHost 2] #[] 16432 2 #[] #[])
  fields := #[]
  methods := #[]
  instanceTypes := #[(.object "java/lang/String"), .int, .int, (.object "java/lang/String"), (.object "java/lang/Class")]
  staticTypes := #[]
  resolved := Array.replicate 89 none
  statics := none }

def pool8 : Array CpInfo := pool [(2, .class_ 4), (1, u "com/example/interleaved_tables/interleavedtables/types/Type"), (65, .class_ 71), (0, u "com/example/interleaved_tables/interleavedtables/types/Type$3")] 34

/-- com/example/interleaved_tables/interleavedtables/types/Type$3 -/
def k8 : Class := { plain "com/example/interleaved_tables/interleavedtables/types/Type$3" (some 6) with
  accessFlags := 16432
  interfaces := #[]
  cf := some (fileOf pool8 70 #[.nestHost 2] #[] 16432 2 #[] #[])
  fields := #[]
  methods := #[]
  instanceTypes := #[(.object "java/lang/String"), .int, .int, (.object "java/lang/String"), (.object "java/lang/Class")]
  staticTypes := #[]
  resolved := Array.replicate 106 none
  statics := none }

def pool9 : Array CpInfo := pool [(2, .class_ 4), (1, u "com/example/interleaved_tables/interleavedtables/types/Type"), (91, .class_ 97), (0, u "com/example/interleaved_tables/interleavedtables/types/Type$2")] 20

/-- com/example/interleaved_tables/interleavedtables/types/Type$2 -/
def k9 : Class := { plain "com/example/interleaved_tables/interleavedtables/types/Type$2" (some 6) with
  accessFlags := 16432
  interfaces := #[]
  cf := some (fileOf pool9 96 #[.nestHost 2] #[] 16432 2 #[] #[])
  fields := #[]
  methods := #[]
  instanceTypes := #[(.object "java/lang/String"), .int, .int, (.object "java/lang/String"), (.object "java/lang/Class")]
  staticTypes := #[]
  resolved := Array.replicate 118 none
  statics := none }

def pool10 : Array CpInfo := pool [(2, .class_ 4), (1, u "com/example/interleaved_tables/interleavedtables/types/Type"), (100, .class_ 107), (1, u "com/example/interleaved_tables/interleavedtables/types/Type$4")] 39

/-- com/example/interleaved_tables/interleavedtables/types/Type$4 -/
def k10 : Class := { plain "com/example/interleaved_tables/interleavedtables/types/Type$4" (some 6) with
  accessFlags := 16432
  interfaces := #[]
  cf := some (fileOf pool10 105 #[.nestHost 2] #[] 16432 2 #[] #[])
  fields := #[]
  methods := #[]
  instanceTypes := #[(.object "java/lang/String"), .int, .int, (.object "java/lang/String"), (.object "java/lang/Class")]
  staticTypes := #[]
  resolved := Array.replicate 147 none
  statics := none }

def pool11 : Array CpInfo := pool [(1, u "java/lang/Cloneable"), (0, .class_ 1), (0, u "java/lang/Object"), (0, .class_ 3)] 3

/-- java/lang/Cloneable -/
def k11 : Class := { plain "java/lang/Cloneable" (some 0) with
  accessFlags := 1537
  interfaces := #[]
  cf := some (fileOf pool11 2 #[] #[] 1537 4 #[] #[])
  fields := #[]
  methods := #[]
  instanceTypes := #[]
  staticTypes := #[]
  resolved := Array.replicate 8 none
  statics := none }

/-- the primitive byte -/
def k12 : Class := { plain "byte" none with kind := .primitive 'B', accessFlags := 0x411 }
/-- [B -/
def k13 : Class := { plain "[B" (some 0) with kind := .array 12 .byte, interfaces := #[11, 4], accessFlags := 1041 }

def heap : Heap := #[{ cls := 6, slots := #[.ref 1, .ref 2, .ref 3, .ref 4, .int 0, .int 0, .int 0, .int 0, .null, .null, .null, .null, .null, .null], vm := .statics 6 },
  { cls := 7, slots := #[.null, .int 0, .int 0, .null, .null], vm := .none },
  { cls := 9, slots := #[.null, .int 0, .int 0, .null, .null], vm := .none },
  { cls := 8, slots := #[.null, .int 0, .int 0, .null, .null], vm := .none },
  { cls := 10, slots := #[.null, .int 0, .int 0, .null, .null], vm := .none }]
def classes : Array Class := #[k0, k1, k2, k3, k4, k5, k6, k7, k8, k9, k10, k11, k12, k13]
def interned : List (Array UInt16 × Addr) := []
def slotsUsed : Nat := 34
def theMethod : MethodId := ⟨1, 2⟩
def args0 : Array Value := #[.int 1, .int 2]
def aboutOver (below : List Frame) : State where
  vm := { classes := classes, interned := interned.toArray }
  heap := heap
  slotsUsed := slotsUsed
  threads := #[{ frames := .invoking theMethod args0 :: below }]
def below0 : List Frame := [.native { method := ⟨0, 0⟩, args := #[] }]
def about1 : State := aboutOver below0
def p0 : Program := .bare "" "" ""
def e0 : Env := launch0.env 0 0 0
theorem w_frames : about1.frames = Frame.invoking theMethod args0 :: below0 := rfl
set_option maxRecDepth 65536 in
theorem w_args : argsFit about1.vm theMethod args0 = true := by decide +kernel
set_option maxRecDepth 65536 in
theorem w_heap : heapFits about1 = true := by decide +kernel
set_option maxRecDepth 65536 in
theorem w_runnable : about1.curStatus? = some .runnable := by decide +kernel
set_option maxRecDepth 65536 in
theorem w_alone : about1.alone = true := by decide +kernel
set_option maxRecDepth 65536 in
theorem w_named : about1.methodNamed? x = some theMethod := by decide +kernel
set_option maxRecDepth 65536 in
theorem w_hears : about1.hears theMethod below0 = true := by decide +kernel
set_option maxRecDepth 65536 in
theorem w_ripe : about1.ripe theMethod args0 below0 = true := by decide +kernel
theorem w_running : about1.status = .running := rfl
set_option maxRecDepth 65536 in
theorem w_room : about1.hasRoom e0.platform room_1 = true :=
  launch0.hasRoom_least _ room_1 (by decide +kernel) (by decide +kernel) (by decide +kernel) (by decide +kernel) (by decide +kernel) (by decide +kernel)
theorem allAtoms_all (ts : List Jvm.Cond) (a : Array Jvm.Value) (st : Jvm.State) : (allAtoms ts).before a st = ts.all (fun c => c.before a st) := by
  induction ts with
  | nil => rfl
  | cons c t ih =>
    show (Jvm.Cond.and c (allAtoms t)).before a st = _
    rw [Jvm.Cond.before_and, ih, List.all_cons]
def words1 : List Jvm.Cond := Jvm.Cond.code x code maxLocals ret :: tables_1
/-- a 'code' word, met by the world's own term for the bytes: nothing is compared byte by byte -/
theorem code_word {y : MethodName} {bytes : ByteArray} {mx : Nat} {rt : Option FieldType} {a : Array Value} {s : State} {m : MethodId} {meth : Method} {c : Code} (h1 : s.methodNamed? y = some m) (h2 : s.vm.method? m = some meth) (h3 : meth.code = some c) (h4 : c.code = bytes)
    (h5 : (c.maxLocals == mx && c.exceptionTable.isEmpty && decide (c.maxStack ≤ mostOperands) && decide (meth.sig.returnType = rt) && !meth.locks && decide (parseMethodDescriptor y.desc = some meth.sig)) = true) : (Jvm.Cond.code y bytes mx rt).before a s = true := by
  simp only [Bool.and_eq_true, beq_iff_eq, Bool.not_eq_true', decide_eq_true_eq] at h5
  obtain ⟨⟨⟨⟨⟨g1, g2⟩, g3⟩, g4⟩, g5⟩, g6⟩ := h5
  simp [Cond.before, Cond.holds, Cond.value, h1, h2, h3, h4, g1, g2, g3, g4, g5, g6]
def isCode : Jvm.Cond → Bool
  | .code _ _ _ _ => true
  | _ => false
theorem all_split {L : List Jvm.Cond} {P : Jvm.Cond → Bool} (h1 : L.all (fun c => isCode c || P c) = true) (h2 : ∀ c ∈ L.filter isCode, P c = true) : L.all P = true := by
  refine List.all_eq_true.mpr fun c hc => ?_
  have h := List.all_eq_true.mp h1 c hc
  rcases Bool.eq_false_or_eq_true (isCode c) with hi | hi
  · exact h2 c (List.mem_filter.mpr ⟨hc, hi⟩)
  · simpa [hi] using h
set_option maxRecDepth 65536 in
theorem w_c0 : (Jvm.Cond.code x code maxLocals ret).before args0 about1 = true := code_word (m := ⟨1, 2⟩) (meth := k1m2) (c := k1c2) (by decide +kernel) rfl rfl rfl (by decide +kernel)
set_option maxRecDepth 65536 in
theorem w_c1 : (Jvm.Cond.code ({ cls := "com/example/interleaved_tables/interleavedtables/types/TypeConvertsToPinLaw", name := "pick", desc := "(I)Lcom/example/interleaved_tables/interleavedtables/types/Type;" } : Jvm.MethodName) method_2_code (1 : Nat) (Option.some (Jvm.ClassFile.FieldType.object "com/example/interleaved_tables/interleavedtables/types/Type"))).before args0 about1 = true := code_word (m := ⟨1, 1⟩) (meth := k1m1) (c := k1c1) (by decide +kernel) rfl rfl rfl (by decide +kernel)
set_option maxRecDepth 65536 in
theorem w_c2 : (Jvm.Cond.code ({ cls := "com/example/interleaved_tables/interleavedtables/types/Type", name := "convertsTo", desc := "(Lcom/example/interleaved_tables/interleavedtables/types/Type;)Z" } : Jvm.MethodName) prog_83_method_12_code (2 : Nat) (Option.some Jvm.ClassFile.FieldType.boolean)).before args0 about1 = true := code_word (m := ⟨6, 0⟩) (meth := k6m0) (c := k6c0) (by decide +kernel) rfl rfl rfl (by decide +kernel)
def codes1 : List Jvm.Cond := [Jvm.Cond.code x code maxLocals ret, Jvm.Cond.code ({ cls := "com/example/interleaved_tables/interleavedtables/types/TypeConvertsToPinLaw", name := "pick", desc := "(I)Lcom/example/interleaved_tables/interleavedtables/types/Type;" } : Jvm.MethodName) method_2_code (1 : Nat) (Option.some (Jvm.ClassFile.FieldType.object "com/example/interleaved_tables/interleavedtables/types/Type")), Jvm.Cond.code ({ cls := "com/example/interleaved_tables/interleavedtables/types/Type", name := "convertsTo", desc := "(Lcom/example/interleaved_tables/interleavedtables/types/Type;)Z" } : Jvm.MethodName) prog_83_method_12_code (2 : Nat) (Option.some Jvm.ClassFile.FieldType.boolean)]
set_option maxRecDepth 65536 in
theorem codes_eq : words1.filter isCode = codes1 := rfl
theorem w_codes : ∀ c ∈ words1.filter isCode, c.before args0 about1 = true := by
  rw [codes_eq]
  intro c hc
  simp only [codes1, List.mem_cons, List.not_mem_nil, or_false] at hc
  rcases hc with rfl | rfl | rfl
  · exact w_c0
  · exact w_c1
  · exact w_c2
set_option maxRecDepth 65536 in
theorem w_t1 : (words1.take 24).all (fun c => isCode c || c.before args0 about1) = true := by decide +kernel
set_option maxRecDepth 65536 in
theorem w_t2 : (words1.drop 24).all (fun c => isCode c || c.before args0 about1) = true := by decide +kernel
theorem w_tables : (allAtoms (Jvm.Cond.code x code maxLocals ret :: tables_1)).before args0 about1 = true := by
  rw [allAtoms_all]
  show words1.all (fun c => c.before args0 about1) = true
  refine all_split ?_ w_codes
  rw [← List.take_append_drop 24 words1, List.all_append, w_t1, w_t2]
  rfl
set_option maxRecDepth 65536 in
theorem w_case : (Jvm.Cond.and given_1 narrow_1).before args0 about1 = true := by decide +kernel
theorem w_applies : (headSpec (Jvm.Cond.code x code maxLocals ret :: tables_1) room_1).applies x e0.platform about1 = true :=
  (Spec.applies_iff w_frames).mpr ⟨w_running, w_runnable, w_alone, w_named, w_hears, w_ripe, w_room, w_tables⟩
theorem atStart : AtStart classFile x code maxLocals ret World_1 tables_1 room_1 Calls_1 rest_1 Pre_1 launch0 p0 e0 about1 theMethod args0 below0 :=
  ⟨lists_1, trivial, launch0.admits_env _ _ _, launch0.least_env, fairChoices_fair.cas, fairChoices_fair.clock, w_frames, w_args, w_heap, w_applies, trivial, trivial, w_case⟩
end start1
theorem witness_1 : WitnessClaimed_1 := ⟨start1.p0, start1.e0, start1.about1, start1.theMethod, start1.args0, start1.below0, start1.atStart⟩
end Jvm.Pilot.@@N@@
