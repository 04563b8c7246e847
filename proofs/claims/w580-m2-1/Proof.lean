import JvmDerived
import JvmDerived.Pilot.@@N@@Statement
import JvmDerived.Pilot.@@N@@Code
set_option linter.unusedVariables false
set_option linter.unusedSimpArgs false
namespace Jvm.RoadKit
open Sem ClassFile Op Lib Jvm.Stand Jvm.Free Jvm.LawKit
section Own
variable {p : Program} {l : Launch} {e : Env} {R : Room} {s : State} {m : MethodId} {args : Array Value} {below : List Frame} {meth : Method} {c : Code} {T : State} {locs : List Loc} {cells slots : Nat} {Fe : Outcome → State → List Loc → Nat → Nat → Prop} {Qf : Option Value → Heap → List Loc → Prop} {kc ks : Nat} {code : ByteArray} {pc pc' : Nat} {Ls l' : Array Slot} {rest : List Value} {Z : State} {a0 : Array Value} {h : Heap}
/-- from the state S the call ends well: it returns, what is returned and the heap at the end meet Qf, and the frame is kept -/
def Gol (p : Program) (e : Env) (below : List Frame) (Fe : Outcome → State → List Loc → Nat → Nat → Prop) (Qf : Option Value → Heap → List Loc → Prop) (kc ks : Nat) (S : State) : Prop :=
  ∃ s₂ o, Steps p.tables e below S s₂ ∧ s₂.status = .running ∧ Ended s₂ below o ∧ ∃ v L, o = .returned v ∧ Qf v s₂.heap L ∧ Fe o s₂ L kc ks
theorem Gol.step {S S' : State} (st : ∀ t, Steps p.tables e below S' t → Steps p.tables e below S t) (k : Gol p e below Fe Qf kc ks S') : Gol p e below Fe Qf kc ks S := by
  obtain ⟨s₂, o, h, r⟩ := k
  exact ⟨s₂, o, st _ h, r⟩
theorem Gol.dia {S S' : State} (h1 : Gol p e below Fe Qf kc ks S' → Gol p e below Fe Qf kc ks S) (h2 : Gol p e below Fe Qf kc ks S') : Gol p e below Fe Qf kc ks S := h1 h2
theorem Gol.all {A : Type} {B : A → Prop} {S : State} {S' : A → State} (h2 : ∀ a, B a → Gol p e below Fe Qf kc ks (S' a)) (h1 : (∀ a, B a → Gol p e below Fe Qf kc ks (S' a)) → Gol p e below Fe Qf kc ks S) : Gol p e below Fe Qf kc ks S := h1 h2
/-- the run stands at pc -/
abbrev GolF (p : Program) (e : Env) (below : List Frame) (Fe : Outcome → State → List Loc → Nat → Nat → Prop) (Qf : Option Value → Heap → List Loc → Prop) (kc ks : Nat) (T : State) (m : MethodId) (pc : Nat) (Ls : Array Slot) (st : List Value) : Prop := Gol p e below Fe Qf kc ks (T.setTop (mkF m pc Ls st))
theorem Gol.fin (X : Stand p l e R s m args below meth c T locs cells slots) {v : Option Value} (hv : meth.sig.returnType = none → v = none) (hlk : meth.locks = false) {S : State} (eT : T.heap = h) (hq : Qf v h locs) (hc : cells ≤ kc) (hs : slots ≤ ks)
    (st : ∀ fs, (∀ (f : JFrame) (acts : List Action), f.method = m → f.locked = none → f.entered = [] → (doReturn e (T.setTop f) acts v).1 = T.setFrames fs) → Steps p.tables e below S (T.setFrames fs)) : Gol p e below (FrameEnd s) Qf kc ks S := by
  obtain ⟨fs, hr, hrun, hended, hW, hsame⟩ := X.leave (v := v) hv hlk
  refine ⟨_, _, st fs hr, hrun, hended, _, _, rfl, ?_, ⟨_, rfl⟩, hW, hsame.mono hc hs⟩
  show Qf v T.heap locs
  rw [eT]; exact hq
theorem Gol.finW {vm₁ : Vm} (X : Stand p l e R (s.setVm vm₁) m args below meth c T locs cells slots) {n : Nat} (hS : s.Since vm₁ n) (hn : n ≤ T.heap.size) {v : Option Value} (hv : meth.sig.returnType = none → v = none) (hlk : meth.locks = false) {S : State} (eT : T.heap = h) (hq : Qf v h locs) (hc : cells ≤ kc) (hs : slots ≤ ks)
    (st : ∀ fs, (∀ (f : JFrame) (acts : List Action), f.method = m → f.locked = none → f.entered = [] → (doReturn e (T.setTop f) acts v).1 = T.setFrames fs) → Steps p.tables e below S (T.setFrames fs)) : Gol p e below (ReturnedEndW s) Qf kc ks S := by
  obtain ⟨fs, hr, hrun, hended, h1, h2, h3, h4⟩ := X.leaveW hS hn (v := v) hv hlk
  refine ⟨_, _, st fs hr, hrun, hended, _, _, rfl, ?_, h1, h2, h3, h4.mono hc hs⟩
  show Qf v T.heap locs
  rw [eT]; exact hq
theorem Gol.aloadN (X : Stand p l e R s m args below meth c T locs cells slots) (hx : p.tables.exec = Jvm.exec) (hby : c.code = code) {k : Fin 4} {v : Value} (hd : decode code pc = .ok (.aload_n k, 1)) (hp : pc + 1 = pc') (hl : Ls[k.val]? = some (.val v)) (hv : v.isRef = true) (k : GolF p e below Fe Qf kc ks T m pc' Ls (v :: rest)) : GolF p e below Fe Qf kc ks T m pc Ls rest := by
  subst hp
  exact Gol.step (fun _ k => XS.aloadN X.here hx rfl (hb hby hd) hl hv k) k
theorem Gol.aload (X : Stand p l e R s m args below meth c T locs cells slots) (hx : p.tables.exec = Jvm.exec) (hby : c.code = code) {k : Nat} {v : Value} (hd : decode code pc = .ok (.aload k, 2)) (hp : pc + 2 = pc') (hl : Ls[k]? = some (.val v)) (hv : v.isRef = true) (k : GolF p e below Fe Qf kc ks T m pc' Ls (v :: rest)) : GolF p e below Fe Qf kc ks T m pc Ls rest := by
  subst hp
  exact Gol.step (fun _ k => XS.aload X.here hx rfl (hb hby hd) hl hv k) k
theorem Gol.iloadN (X : Stand p l e R s m args below meth c T locs cells slots) (hx : p.tables.exec = Jvm.exec) (hby : c.code = code) {k : Fin 4} {v : Int32} (hd : decode code pc = .ok (.iload_n k, 1)) (hp : pc + 1 = pc') (hl : Ls[k.val]? = some (.val (.int v))) (k : GolF p e below Fe Qf kc ks T m pc' Ls (.int v :: rest)) : GolF p e below Fe Qf kc ks T m pc Ls rest := by
  subst hp
  exact Gol.step (fun _ k => XS.iloadN X.here hx rfl (hb hby hd) hl k) k
theorem Gol.iload (X : Stand p l e R s m args below meth c T locs cells slots) (hx : p.tables.exec = Jvm.exec) (hby : c.code = code) {k : Nat} {v : Int32} (hd : decode code pc = .ok (.iload k, 2)) (hp : pc + 2 = pc') (hl : Ls[k]? = some (.val (.int v))) (k : GolF p e below Fe Qf kc ks T m pc' Ls (.int v :: rest)) : GolF p e below Fe Qf kc ks T m pc Ls rest := by
  subst hp
  exact Gol.step (fun _ k => XS.iload X.here hx rfl (hb hby hd) hl k) k
theorem Gol.istoreN (X : Stand p l e R s m args below meth c T locs cells slots) (hx : p.tables.exec = Jvm.exec) (hby : c.code = code) {k : Fin 4} {x : Int32} (hd : decode code pc = .ok (.istore_n k, 1)) (hp : pc + 1 = pc') (hl : storeLocals Ls k.val (.int x) = some l') (k : GolF p e below Fe Qf kc ks T m pc' l' rest) : GolF p e below Fe Qf kc ks T m pc Ls (.int x :: rest) := by
  subst hp
  exact Gol.step (fun _ k => XS.istoreN X.here hx rfl (hb hby hd) rfl hl k) k
theorem Gol.istore (X : Stand p l e R s m args below meth c T locs cells slots) (hx : p.tables.exec = Jvm.exec) (hby : c.code = code) {k : Nat} {x : Int32} (hd : decode code pc = .ok (.istore k, 2)) (hp : pc + 2 = pc') (hl : storeLocals Ls k (.int x) = some l') (k : GolF p e below Fe Qf kc ks T m pc' l' rest) : GolF p e below Fe Qf kc ks T m pc Ls (.int x :: rest) := by
  subst hp
  exact Gol.step (fun _ k => XS.istore X.here hx rfl (hb hby hd) rfl hl k) k
theorem Gol.lloadN (X : Stand p l e R s m args below meth c T locs cells slots) (hx : p.tables.exec = Jvm.exec) (hby : c.code = code) {k : Fin 4} {v : Int64} (hd : decode code pc = .ok (.lload_n k, 1)) (hp : pc + 1 = pc') (hl : Ls[k.val]? = some (.val (.long v))) (k : GolF p e below Fe Qf kc ks T m pc' Ls (.long v :: rest)) : GolF p e below Fe Qf kc ks T m pc Ls rest := by
  subst hp
  exact Gol.step (fun _ k => XT.lloadN X.here hx rfl (hb hby hd) hl k) k
theorem Gol.lload (X : Stand p l e R s m args below meth c T locs cells slots) (hx : p.tables.exec = Jvm.exec) (hby : c.code = code) {k : Nat} {v : Int64} (hd : decode code pc = .ok (.lload k, 2)) (hp : pc + 2 = pc') (hl : Ls[k]? = some (.val (.long v))) (k : GolF p e below Fe Qf kc ks T m pc' Ls (.long v :: rest)) : GolF p e below Fe Qf kc ks T m pc Ls rest := by
  subst hp
  exact Gol.step (fun _ k => XT.lload X.here hx rfl (hb hby hd) hl k) k
theorem Gol.lstoreN (X : Stand p l e R s m args below meth c T locs cells slots) (hx : p.tables.exec = Jvm.exec) (hby : c.code = code) {k : Fin 4} {x : Int64} (hd : decode code pc = .ok (.lstore_n k, 1)) (hp : pc + 1 = pc') (hl : storeLocals Ls k.val (.long x) = some l') (k : GolF p e below Fe Qf kc ks T m pc' l' rest) : GolF p e below Fe Qf kc ks T m pc Ls (.long x :: rest) := by
  subst hp
  exact Gol.step (fun _ k => XT.lstoreN X.here hx rfl (hb hby hd) rfl hl k) k
theorem Gol.lstore (X : Stand p l e R s m args below meth c T locs cells slots) (hx : p.tables.exec = Jvm.exec) (hby : c.code = code) {k : Nat} {x : Int64} (hd : decode code pc = .ok (.lstore k, 2)) (hp : pc + 2 = pc') (hl : storeLocals Ls k (.long x) = some l') (k : GolF p e below Fe Qf kc ks T m pc' l' rest) : GolF p e below Fe Qf kc ks T m pc Ls (.long x :: rest) := by
  subst hp
  exact Gol.step (fun _ k => XT.lstore X.here hx rfl (hb hby hd) rfl hl k) k
theorem Gol.astoreN (X : Stand p l e R s m args below meth c T locs cells slots) (hx : p.tables.exec = Jvm.exec) (hby : c.code = code) {k : Fin 4} {x : Value} (hd : decode code pc = .ok (.astore_n k, 1)) (hp : pc + 1 = pc') (hv : x.isRef = true) (hl : storeLocals Ls k.val x = some l') (k : GolF p e below Fe Qf kc ks T m pc' l' rest) : GolF p e below Fe Qf kc ks T m pc Ls (x :: rest) := by
  subst hp
  exact Gol.step (fun _ k => XS.astoreN X.here hx rfl (hb hby hd) rfl hv hl k) k
theorem Gol.astore (X : Stand p l e R s m args below meth c T locs cells slots) (hx : p.tables.exec = Jvm.exec) (hby : c.code = code) {k : Nat} {x : Value} (hd : decode code pc = .ok (.astore k, 2)) (hp : pc + 2 = pc') (hv : x.isRef = true) (hl : storeLocals Ls k x = some l') (k : GolF p e below Fe Qf kc ks T m pc' l' rest) : GolF p e below Fe Qf kc ks T m pc Ls (x :: rest) := by
  subst hp
  exact Gol.step (fun _ k => XS.astore X.here hx rfl (hb hby hd) rfl hv hl k) k
theorem Gol.iconst (X : Stand p l e R s m args below meth c T locs cells slots) (hx : p.tables.exec = Jvm.exec) (hby : c.code = code) {i : Int} {z : Int32} (hd : decode code pc = .ok (.iconst i, 1)) (hp : pc + 1 = pc') (hz : Int32.ofInt i = z) (k : GolF p e below Fe Qf kc ks T m pc' Ls (.int z :: rest)) : GolF p e below Fe Qf kc ks T m pc Ls rest := by
  subst hp hz
  exact Gol.step (fun _ k => XS.iconst X.here hx rfl (hb hby hd) k) k
theorem Gol.bipush (X : Stand p l e R s m args below meth c T locs cells slots) (hx : p.tables.exec = Jvm.exec) (hby : c.code = code) {i : Int} {z : Int32} (hd : decode code pc = .ok (.bipush i, 2)) (hp : pc + 2 = pc') (hz : (Int8.ofInt i).toInt32 = z) (k : GolF p e below Fe Qf kc ks T m pc' Ls (.int z :: rest)) : GolF p e below Fe Qf kc ks T m pc Ls rest := by
  subst hp hz
  exact Gol.step (fun _ k => XS.bipush X.here hx rfl (hb hby hd) k) k
theorem Gol.sipush (X : Stand p l e R s m args below meth c T locs cells slots) (hx : p.tables.exec = Jvm.exec) (hby : c.code = code) {i : Int} {z : Int32} (hd : decode code pc = .ok (.sipush i, 3)) (hp : pc + 3 = pc') (hz : (Int16.ofInt i).toInt32 = z) (k : GolF p e below Fe Qf kc ks T m pc' Ls (.int z :: rest)) : GolF p e below Fe Qf kc ks T m pc Ls rest := by
  subst hp hz
  exact Gol.step (fun _ k => XS.sipush X.here hx rfl (hb hby hd) k) k
theorem Gol.lconst (X : Stand p l e R s m args below meth c T locs cells slots) (hx : p.tables.exec = Jvm.exec) (hby : c.code = code) {i : Fin 2} {z : Int64} (hd : decode code pc = .ok (.lconst i, 1)) (hp : pc + 1 = pc') (hz : Int64.ofNat i = z) (k : GolF p e below Fe Qf kc ks T m pc' Ls (.long z :: rest)) : GolF p e below Fe Qf kc ks T m pc Ls rest := by
  subst hp hz
  exact Gol.step (fun _ k => XT.lconst X.here hx rfl (hb hby hd) k) k
theorem Gol.aconstNull (X : Stand p l e R s m args below meth c T locs cells slots) (hx : p.tables.exec = Jvm.exec) (hby : c.code = code) (hd : decode code pc = .ok (.aconst_null, 1)) (hp : pc + 1 = pc') (k : GolF p e below Fe Qf kc ks T m pc' Ls (.null :: rest)) : GolF p e below Fe Qf kc ks T m pc Ls rest := by
  subst hp
  exact Gol.step (fun _ k => XS.aconstNull X.here hx rfl (hb hby hd) k) k
theorem Gol.iadd (X : Stand p l e R s m args below meth c T locs cells slots) (hx : p.tables.exec = Jvm.exec) (hby : c.code = code) {x y z : Int32} (hd : decode code pc = .ok (.iadd, 1)) (hp : pc + 1 = pc') (hz : x + y = z) (k : GolF p e below Fe Qf kc ks T m pc' Ls (.int z :: rest)) : GolF p e below Fe Qf kc ks T m pc Ls (.int y :: .int x :: rest) := by
  subst hp hz
  exact Gol.step (fun _ k => XS.iadd X.here hx rfl (hb hby hd) rfl k) k
theorem Gol.ladd (X : Stand p l e R s m args below meth c T locs cells slots) (hx : p.tables.exec = Jvm.exec) (hby : c.code = code) {x y z : Int64} (hd : decode code pc = .ok (.ladd, 1)) (hp : pc + 1 = pc') (hz : x + y = z) (k : GolF p e below Fe Qf kc ks T m pc' Ls (.long z :: rest)) : GolF p e below Fe Qf kc ks T m pc Ls (.long y :: .long x :: rest) := by
  subst hp hz
  exact Gol.step (fun _ k => XT.ladd X.here hx rfl (hb hby hd) rfl k) k
theorem Gol.isub (X : Stand p l e R s m args below meth c T locs cells slots) (hx : p.tables.exec = Jvm.exec) (hby : c.code = code) {x y z : Int32} (hd : decode code pc = .ok (.isub, 1)) (hp : pc + 1 = pc') (hz : x - y = z) (k : GolF p e below Fe Qf kc ks T m pc' Ls (.int z :: rest)) : GolF p e below Fe Qf kc ks T m pc Ls (.int y :: .int x :: rest) := by
  subst hp hz
  exact Gol.step (fun _ k => XS.isub X.here hx rfl (hb hby hd) rfl k) k
theorem Gol.lsub (X : Stand p l e R s m args below meth c T locs cells slots) (hx : p.tables.exec = Jvm.exec) (hby : c.code = code) {x y z : Int64} (hd : decode code pc = .ok (.lsub, 1)) (hp : pc + 1 = pc') (hz : x - y = z) (k : GolF p e below Fe Qf kc ks T m pc' Ls (.long z :: rest)) : GolF p e below Fe Qf kc ks T m pc Ls (.long y :: .long x :: rest) := by
  subst hp hz
  exact Gol.step (fun _ k => XT.lsub X.here hx rfl (hb hby hd) rfl k) k
theorem Gol.imul (X : Stand p l e R s m args below meth c T locs cells slots) (hx : p.tables.exec = Jvm.exec) (hby : c.code = code) {x y z : Int32} (hd : decode code pc = .ok (.imul, 1)) (hp : pc + 1 = pc') (hz : x * y = z) (k : GolF p e below Fe Qf kc ks T m pc' Ls (.int z :: rest)) : GolF p e below Fe Qf kc ks T m pc Ls (.int y :: .int x :: rest) := by
  subst hp hz
  exact Gol.step (fun _ k => XS.imul X.here hx rfl (hb hby hd) rfl k) k
theorem Gol.lmul (X : Stand p l e R s m args below meth c T locs cells slots) (hx : p.tables.exec = Jvm.exec) (hby : c.code = code) {x y z : Int64} (hd : decode code pc = .ok (.lmul, 1)) (hp : pc + 1 = pc') (hz : x * y = z) (k : GolF p e below Fe Qf kc ks T m pc' Ls (.long z :: rest)) : GolF p e below Fe Qf kc ks T m pc Ls (.long y :: .long x :: rest) := by
  subst hp hz
  exact Gol.step (fun _ k => XT.lmul X.here hx rfl (hb hby hd) rfl k) k
theorem Gol.iand (X : Stand p l e R s m args below meth c T locs cells slots) (hx : p.tables.exec = Jvm.exec) (hby : c.code = code) {x y z : Int32} (hd : decode code pc = .ok (.iand, 1)) (hp : pc + 1 = pc') (hz : x &&& y = z) (k : GolF p e below Fe Qf kc ks T m pc' Ls (.int z :: rest)) : GolF p e below Fe Qf kc ks T m pc Ls (.int y :: .int x :: rest) := by
  subst hp hz
  exact Gol.step (fun _ k => XS.iand X.here hx rfl (hb hby hd) rfl k) k
theorem Gol.land (X : Stand p l e R s m args below meth c T locs cells slots) (hx : p.tables.exec = Jvm.exec) (hby : c.code = code) {x y z : Int64} (hd : decode code pc = .ok (.land, 1)) (hp : pc + 1 = pc') (hz : x &&& y = z) (k : GolF p e below Fe Qf kc ks T m pc' Ls (.long z :: rest)) : GolF p e below Fe Qf kc ks T m pc Ls (.long y :: .long x :: rest) := by
  subst hp hz
  exact Gol.step (fun _ k => XT.land X.here hx rfl (hb hby hd) rfl k) k
theorem Gol.ior (X : Stand p l e R s m args below meth c T locs cells slots) (hx : p.tables.exec = Jvm.exec) (hby : c.code = code) {x y z : Int32} (hd : decode code pc = .ok (.ior, 1)) (hp : pc + 1 = pc') (hz : x ||| y = z) (k : GolF p e below Fe Qf kc ks T m pc' Ls (.int z :: rest)) : GolF p e below Fe Qf kc ks T m pc Ls (.int y :: .int x :: rest) := by
  subst hp hz
  exact Gol.step (fun _ k => XT.ior X.here hx rfl (hb hby hd) rfl k) k
theorem Gol.lor (X : Stand p l e R s m args below meth c T locs cells slots) (hx : p.tables.exec = Jvm.exec) (hby : c.code = code) {x y z : Int64} (hd : decode code pc = .ok (.lor, 1)) (hp : pc + 1 = pc') (hz : x ||| y = z) (k : GolF p e below Fe Qf kc ks T m pc' Ls (.long z :: rest)) : GolF p e below Fe Qf kc ks T m pc Ls (.long y :: .long x :: rest) := by
  subst hp hz
  exact Gol.step (fun _ k => XT.lor X.here hx rfl (hb hby hd) rfl k) k
theorem Gol.ixor (X : Stand p l e R s m args below meth c T locs cells slots) (hx : p.tables.exec = Jvm.exec) (hby : c.code = code) {x y z : Int32} (hd : decode code pc = .ok (.ixor, 1)) (hp : pc + 1 = pc') (hz : x ^^^ y = z) (k : GolF p e below Fe Qf kc ks T m pc' Ls (.int z :: rest)) : GolF p e below Fe Qf kc ks T m pc Ls (.int y :: .int x :: rest) := by
  subst hp hz
  exact Gol.step (fun _ k => XT.ixor X.here hx rfl (hb hby hd) rfl k) k
theorem Gol.lxor (X : Stand p l e R s m args below meth c T locs cells slots) (hx : p.tables.exec = Jvm.exec) (hby : c.code = code) {x y z : Int64} (hd : decode code pc = .ok (.lxor, 1)) (hp : pc + 1 = pc') (hz : x ^^^ y = z) (k : GolF p e below Fe Qf kc ks T m pc' Ls (.long z :: rest)) : GolF p e below Fe Qf kc ks T m pc Ls (.long y :: .long x :: rest) := by
  subst hp hz
  exact Gol.step (fun _ k => XT.lxor X.here hx rfl (hb hby hd) rfl k) k
theorem Gol.ishl (X : Stand p l e R s m args below meth c T locs cells slots) (hx : p.tables.exec = Jvm.exec) (hby : c.code = code) {x y z : Int32} (hd : decode code pc = .ok (.ishl, 1)) (hp : pc + 1 = pc') (hz : x <<< (y &&& 31) = z) (k : GolF p e below Fe Qf kc ks T m pc' Ls (.int z :: rest)) : GolF p e below Fe Qf kc ks T m pc Ls (.int y :: .int x :: rest) := by
  subst hp hz
  exact Gol.step (fun _ k => XT.ishl X.here hx rfl (hb hby hd) rfl k) k
theorem Gol.ishr (X : Stand p l e R s m args below meth c T locs cells slots) (hx : p.tables.exec = Jvm.exec) (hby : c.code = code) {x y z : Int32} (hd : decode code pc = .ok (.ishr, 1)) (hp : pc + 1 = pc') (hz : x >>> (y &&& 31) = z) (k : GolF p e below Fe Qf kc ks T m pc' Ls (.int z :: rest)) : GolF p e below Fe Qf kc ks T m pc Ls (.int y :: .int x :: rest) := by
  subst hp hz
  exact Gol.step (fun _ k => XT.ishr X.here hx rfl (hb hby hd) rfl k) k
theorem Gol.iushr (X : Stand p l e R s m args below meth c T locs cells slots) (hx : p.tables.exec = Jvm.exec) (hby : c.code = code) {x y z : Int32} (hd : decode code pc = .ok (.iushr, 1)) (hp : pc + 1 = pc') (hz : XT.ushr x y = z) (k : GolF p e below Fe Qf kc ks T m pc' Ls (.int z :: rest)) : GolF p e below Fe Qf kc ks T m pc Ls (.int y :: .int x :: rest) := by
  subst hp hz
  exact Gol.step (fun _ k => XT.iushr X.here hx rfl (hb hby hd) rfl k) k
theorem Gol.lshl (X : Stand p l e R s m args below meth c T locs cells slots) (hx : p.tables.exec = Jvm.exec) (hby : c.code = code) {x z : Int64} {y : Int32} (hd : decode code pc = .ok (.lshl, 1)) (hp : pc + 1 = pc') (hz : x <<< (y.toInt64 &&& 63) = z) (k : GolF p e below Fe Qf kc ks T m pc' Ls (.long z :: rest)) : GolF p e below Fe Qf kc ks T m pc Ls (.int y :: .long x :: rest) := by
  subst hp hz
  exact Gol.step (fun _ k => XT.lshl X.here hx rfl (hb hby hd) rfl k) k
theorem Gol.lshr (X : Stand p l e R s m args below meth c T locs cells slots) (hx : p.tables.exec = Jvm.exec) (hby : c.code = code) {x z : Int64} {y : Int32} (hd : decode code pc = .ok (.lshr, 1)) (hp : pc + 1 = pc') (hz : x >>> (y.toInt64 &&& 63) = z) (k : GolF p e below Fe Qf kc ks T m pc' Ls (.long z :: rest)) : GolF p e below Fe Qf kc ks T m pc Ls (.int y :: .long x :: rest) := by
  subst hp hz
  exact Gol.step (fun _ k => XT.lshr X.here hx rfl (hb hby hd) rfl k) k
theorem Gol.lushr (X : Stand p l e R s m args below meth c T locs cells slots) (hx : p.tables.exec = Jvm.exec) (hby : c.code = code) {x z : Int64} {y : Int32} (hd : decode code pc = .ok (.lushr, 1)) (hp : pc + 1 = pc') (hz : XT.ushrL x y = z) (k : GolF p e below Fe Qf kc ks T m pc' Ls (.long z :: rest)) : GolF p e below Fe Qf kc ks T m pc Ls (.int y :: .long x :: rest) := by
  subst hp hz
  exact Gol.step (fun _ k => XT.lushr X.here hx rfl (hb hby hd) rfl k) k
theorem Gol.lcmp (X : Stand p l e R s m args below meth c T locs cells slots) (hx : p.tables.exec = Jvm.exec) (hby : c.code = code) {x y : Int64} (hd : decode code pc = .ok (.lcmp, 1)) (hp : pc + 1 = pc') (k : GolF p e below Fe Qf kc ks T m pc' Ls (.int (XT.cmpL x y) :: rest)) : GolF p e below Fe Qf kc ks T m pc Ls (.long y :: .long x :: rest) := by
  subst hp
  exact Gol.step (fun _ k => XT.lcmp X.here hx rfl (hb hby hd) rfl k) k
theorem Gol.ineg (X : Stand p l e R s m args below meth c T locs cells slots) (hx : p.tables.exec = Jvm.exec) (hby : c.code = code) {x : Int32} {z : Int32} (hd : decode code pc = .ok (.ineg, 1)) (hp : pc + 1 = pc') (hz : -x = z) (k : GolF p e below Fe Qf kc ks T m pc' Ls (.int z :: rest)) : GolF p e below Fe Qf kc ks T m pc Ls (.int x :: rest) := by
  subst hp hz
  exact Gol.step (fun _ k => XS.ineg X.here hx rfl (hb hby hd) rfl k) k
theorem Gol.lneg (X : Stand p l e R s m args below meth c T locs cells slots) (hx : p.tables.exec = Jvm.exec) (hby : c.code = code) {x : Int64} {z : Int64} (hd : decode code pc = .ok (.lneg, 1)) (hp : pc + 1 = pc') (hz : -x = z) (k : GolF p e below Fe Qf kc ks T m pc' Ls (.long z :: rest)) : GolF p e below Fe Qf kc ks T m pc Ls (.long x :: rest) := by
  subst hp hz
  exact Gol.step (fun _ k => XT.lneg X.here hx rfl (hb hby hd) rfl k) k
theorem Gol.i2l (X : Stand p l e R s m args below meth c T locs cells slots) (hx : p.tables.exec = Jvm.exec) (hby : c.code = code) {x : Int32} {z : Int64} (hd : decode code pc = .ok (.i2l, 1)) (hp : pc + 1 = pc') (hz : x.toInt64 = z) (k : GolF p e below Fe Qf kc ks T m pc' Ls (.long z :: rest)) : GolF p e below Fe Qf kc ks T m pc Ls (.int x :: rest) := by
  subst hp hz
  exact Gol.step (fun _ k => XT.i2l X.here hx rfl (hb hby hd) rfl k) k
theorem Gol.l2i (X : Stand p l e R s m args below meth c T locs cells slots) (hx : p.tables.exec = Jvm.exec) (hby : c.code = code) {x : Int64} {z : Int32} (hd : decode code pc = .ok (.l2i, 1)) (hp : pc + 1 = pc') (hz : x.toInt32 = z) (k : GolF p e below Fe Qf kc ks T m pc' Ls (.int z :: rest)) : GolF p e below Fe Qf kc ks T m pc Ls (.long x :: rest) := by
  subst hp hz
  exact Gol.step (fun _ k => XT.l2i X.here hx rfl (hb hby hd) rfl k) k
theorem Gol.i2b (X : Stand p l e R s m args below meth c T locs cells slots) (hx : p.tables.exec = Jvm.exec) (hby : c.code = code) {x : Int32} {z : Int32} (hd : decode code pc = .ok (.i2b, 1)) (hp : pc + 1 = pc') (hz : x.toInt8.toInt32 = z) (k : GolF p e below Fe Qf kc ks T m pc' Ls (.int z :: rest)) : GolF p e below Fe Qf kc ks T m pc Ls (.int x :: rest) := by
  subst hp hz
  exact Gol.step (fun _ k => XT.i2b X.here hx rfl (hb hby hd) rfl k) k
theorem Gol.i2s (X : Stand p l e R s m args below meth c T locs cells slots) (hx : p.tables.exec = Jvm.exec) (hby : c.code = code) {x : Int32} {z : Int32} (hd : decode code pc = .ok (.i2s, 1)) (hp : pc + 1 = pc') (hz : x.toInt16.toInt32 = z) (k : GolF p e below Fe Qf kc ks T m pc' Ls (.int z :: rest)) : GolF p e below Fe Qf kc ks T m pc Ls (.int x :: rest) := by
  subst hp hz
  exact Gol.step (fun _ k => XT.i2s X.here hx rfl (hb hby hd) rfl k) k
theorem Gol.i2c (X : Stand p l e R s m args below meth c T locs cells slots) (hx : p.tables.exec = Jvm.exec) (hby : c.code = code) {x : Int32} {z : Int32} (hd : decode code pc = .ok (.i2c, 1)) (hp : pc + 1 = pc') (hz : x.toUInt32.toUInt16.toUInt32.toInt32 = z) (k : GolF p e below Fe Qf kc ks T m pc' Ls (.int z :: rest)) : GolF p e below Fe Qf kc ks T m pc Ls (.int x :: rest) := by
  subst hp hz
  exact Gol.step (fun _ k => XT.i2c X.here hx rfl (hb hby hd) rfl k) k
theorem Gol.idiv (X : Stand p l e R s m args below meth c T locs cells slots) (hx : p.tables.exec = Jvm.exec) (hby : c.code = code) {x y : Int32} (hd : decode code pc = .ok (.idiv, 1)) (hp : pc + 1 = pc') (hy : y ≠ 0) (k : GolF p e below Fe Qf kc ks T m pc' Ls (.int (x / y) :: rest)) : GolF p e below Fe Qf kc ks T m pc Ls (.int y :: .int x :: rest) := by
  subst hp
  exact Gol.step (fun _ k => XS.idiv X.here hx rfl (hb hby hd) rfl hy k) k
theorem Gol.irem (X : Stand p l e R s m args below meth c T locs cells slots) (hx : p.tables.exec = Jvm.exec) (hby : c.code = code) {x y : Int32} (hd : decode code pc = .ok (.irem, 1)) (hp : pc + 1 = pc') (hy : y ≠ 0) (k : GolF p e below Fe Qf kc ks T m pc' Ls (.int (x % y) :: rest)) : GolF p e below Fe Qf kc ks T m pc Ls (.int y :: .int x :: rest) := by
  subst hp
  exact Gol.step (fun _ k => Jvm.RoadKit.iremM X hx rfl (hb hby hd) rfl hy k) k
theorem Gol.ldiv (X : Stand p l e R s m args below meth c T locs cells slots) (hx : p.tables.exec = Jvm.exec) (hby : c.code = code) {x y : Int64} (hd : decode code pc = .ok (.ldiv, 1)) (hp : pc + 1 = pc') (hy : y ≠ 0) (k : GolF p e below Fe Qf kc ks T m pc' Ls (.long (x / y) :: rest)) : GolF p e below Fe Qf kc ks T m pc Ls (.long y :: .long x :: rest) := by
  subst hp
  exact Gol.step (fun _ k => XT.ldiv X.here hx rfl (hb hby hd) rfl hy k) k
theorem Gol.lrem (X : Stand p l e R s m args below meth c T locs cells slots) (hx : p.tables.exec = Jvm.exec) (hby : c.code = code) {x y : Int64} (hd : decode code pc = .ok (.lrem, 1)) (hp : pc + 1 = pc') (hy : y ≠ 0) (k : GolF p e below Fe Qf kc ks T m pc' Ls (.long (x - (x / y) * y) :: rest)) : GolF p e below Fe Qf kc ks T m pc Ls (.long y :: .long x :: rest) := by
  subst hp
  exact Gol.step (fun _ k => XT.lrem X.here hx rfl (hb hby hd) rfl hy k) k
theorem Gol.iinc (X : Stand p l e R s m args below meth c T locs cells slots) (hx : p.tables.exec = Jvm.exec) (hby : c.code = code) {k : Nat} {cst : Int} {x : Int32} (hd : decode code pc = .ok (.iinc k cst, 3)) (hp : pc + 3 = pc') (hl : Ls[k]? = some (.val (.int x))) (hl' : storeLocals Ls k (.int (x + Int32.ofInt cst)) = some l') (k : GolF p e below Fe Qf kc ks T m pc' l' rest) : GolF p e below Fe Qf kc ks T m pc Ls rest := by
  subst hp
  exact Gol.step (fun _ k => XS.iinc X.here hx rfl (hb hby hd) hl hl' k) k
theorem Gol.dup (X : Stand p l e R s m args below meth c T locs cells slots) (hx : p.tables.exec = Jvm.exec) (hby : c.code = code) {x : Value} (hd : decode code pc = .ok (.dup, 1)) (hp : pc + 1 = pc') (hc : x.category = 1) (k : GolF p e below Fe Qf kc ks T m pc' Ls (x :: x :: rest)) : GolF p e below Fe Qf kc ks T m pc Ls (x :: rest) := by
  subst hp
  exact Gol.step (fun _ k => XS.dup X.here hx rfl (hb hby hd) rfl hc k) k
theorem Gol.pop (X : Stand p l e R s m args below meth c T locs cells slots) (hx : p.tables.exec = Jvm.exec) (hby : c.code = code) {x : Value} (hd : decode code pc = .ok (.pop, 1)) (hp : pc + 1 = pc') (hc : x.category = 1) (k : GolF p e below Fe Qf kc ks T m pc' Ls rest) : GolF p e below Fe Qf kc ks T m pc Ls (x :: rest) := by
  subst hp
  exact Gol.step (fun _ k => XT.pop X.here hx rfl (hb hby hd) rfl hc k) k
theorem Gol.dupX1 (X : Stand p l e R s m args below meth c T locs cells slots) (hx : p.tables.exec = Jvm.exec) (hby : c.code = code) {x y : Value} (hd : decode code pc = .ok (.dup_x1, 1)) (hp : pc + 1 = pc') (hc : x.category = 1) (hc' : y.category = 1) (k : GolF p e below Fe Qf kc ks T m pc' Ls (x :: y :: x :: rest)) : GolF p e below Fe Qf kc ks T m pc Ls (x :: y :: rest) := by
  subst hp
  exact Gol.step (fun _ k => XT.dupX1 X.here hx rfl (hb hby hd) rfl hc hc' k) k
theorem Gol.dup2 (X : Stand p l e R s m args below meth c T locs cells slots) (hx : p.tables.exec = Jvm.exec) (hby : c.code = code) {x y : Value} (hd : decode code pc = .ok (.dup2, 1)) (hp : pc + 1 = pc') (hc : x.category = 1) (hc' : y.category = 1) (k : GolF p e below Fe Qf kc ks T m pc' Ls (x :: y :: x :: y :: rest)) : GolF p e below Fe Qf kc ks T m pc Ls (x :: y :: rest) := by
  subst hp
  exact Gol.step (fun _ k => XT.dup2 X.here hx rfl (hb hby hd) rfl hc hc' k) k
theorem Gol.dup2L (X : Stand p l e R s m args below meth c T locs cells slots) (hx : p.tables.exec = Jvm.exec) (hby : c.code = code) {x : Int64} (hd : decode code pc = .ok (.dup2, 1)) (hp : pc + 1 = pc') (k : GolF p e below Fe Qf kc ks T m pc' Ls (.long x :: .long x :: rest)) : GolF p e below Fe Qf kc ks T m pc Ls (.long x :: rest) := by
  subst hp
  exact Gol.step (fun _ k => XT.dup2L X.here hx rfl (hb hby hd) rfl k) k
theorem Gol.goto (X : Stand p l e R s m args below meth c T locs cells slots) (hx : p.tables.exec = Jvm.exec) (hby : c.code = code) {o : Int} (hd : decode code pc = .ok (.goto o, 3)) (hp : (pc : Int) + o = (pc' : Int)) (k : GolF p e below Fe Qf kc ks T m pc' Ls rest) : GolF p e below Fe Qf kc ks T m pc Ls rest :=
  Gol.step (fun _ k => XS.goto X.here hx rfl (pc0 := pc) rfl (hb hby hd) (by rw [hp]; exact Int.natCast_nonneg _) (by rw [hp]; rfl) k) k
theorem Gol.ifYes (X : Stand p l e R s m args below meth c T locs cells slots) (hx : p.tables.exec = Jvm.exec) (hby : c.code = code) {o : Int} {cd : ClassFile.Cond} {x : Int32} (hd : decode code pc = .ok (.ifCond cd o, 3)) (hp : (pc : Int) + o = (pc' : Int)) (hc : ifCond.holds cd x = true) (k : GolF p e below Fe Qf kc ks T m pc' Ls rest) : GolF p e below Fe Qf kc ks T m pc Ls (.int x :: rest) :=
  Gol.step (fun _ k => XS.ifYes X.here hx rfl (pc0 := pc) rfl (hb hby hd) rfl hc (by rw [hp]; exact Int.natCast_nonneg _) (by rw [hp]; rfl) k) k
theorem Gol.icmpYes (X : Stand p l e R s m args below meth c T locs cells slots) (hx : p.tables.exec = Jvm.exec) (hby : c.code = code) {o : Int} {cd : ClassFile.Cond} {x y : Int32} (hd : decode code pc = .ok (.if_icmp cd o, 3)) (hp : (pc : Int) + o = (pc' : Int)) (hc : if_icmp.holds cd x y = true) (k : GolF p e below Fe Qf kc ks T m pc' Ls rest) : GolF p e below Fe Qf kc ks T m pc Ls (.int y :: .int x :: rest) :=
  Gol.step (fun _ k => XS.icmpYes X.here hx rfl (pc0 := pc) rfl (hb hby hd) rfl hc (by rw [hp]; exact Int.natCast_nonneg _) (by rw [hp]; rfl) k) k
theorem Gol.ifNo (X : Stand p l e R s m args below meth c T locs cells slots) (hx : p.tables.exec = Jvm.exec) (hby : c.code = code) {o : Int} {cd : ClassFile.Cond} {x : Int32} (hd : decode code pc = .ok (.ifCond cd o, 3)) (hp : pc + 3 = pc') (hc : ifCond.holds cd x = false) (k : GolF p e below Fe Qf kc ks T m pc' Ls rest) : GolF p e below Fe Qf kc ks T m pc Ls (.int x :: rest) := by
  subst hp
  exact Gol.step (fun _ k => XS.ifNo X.here hx rfl (hb hby hd) rfl hc k) k
theorem Gol.icmpNo (X : Stand p l e R s m args below meth c T locs cells slots) (hx : p.tables.exec = Jvm.exec) (hby : c.code = code) {o : Int} {cd : ClassFile.Cond} {x y : Int32} (hd : decode code pc = .ok (.if_icmp cd o, 3)) (hp : pc + 3 = pc') (hc : if_icmp.holds cd x y = false) (k : GolF p e below Fe Qf kc ks T m pc' Ls rest) : GolF p e below Fe Qf kc ks T m pc Ls (.int y :: .int x :: rest) := by
  subst hp
  exact Gol.step (fun _ k => XS.icmpNo X.here hx rfl (hb hby hd) rfl hc k) k
theorem Gol.ifnullYes (X : Stand p l e R s m args below meth c T locs cells slots) (hx : p.tables.exec = Jvm.exec) (hby : c.code = code) {o : Int} (hd : decode code pc = .ok (.ifnull o, 3)) (hp : (pc : Int) + o = (pc' : Int)) (k : GolF p e below Fe Qf kc ks T m pc' Ls rest) : GolF p e below Fe Qf kc ks T m pc Ls (.null :: rest) :=
  Gol.step (fun _ k => XS.ifnullYes X.here hx rfl (pc0 := pc) rfl (hb hby hd) rfl (by rw [hp]; exact Int.natCast_nonneg _) (by rw [hp]; rfl) k) k
theorem Gol.ifnullNo (X : Stand p l e R s m args below meth c T locs cells slots) (hx : p.tables.exec = Jvm.exec) (hby : c.code = code) {o : Int} {b : Addr} (hd : decode code pc = .ok (.ifnull o, 3)) (hp : pc + 3 = pc') (k : GolF p e below Fe Qf kc ks T m pc' Ls rest) : GolF p e below Fe Qf kc ks T m pc Ls (.ref b :: rest) := by
  subst hp
  exact Gol.step (fun _ k => XS.ifnullNo X.here hx rfl (hb hby hd) rfl k) k
theorem Gol.ifnonnullYes (X : Stand p l e R s m args below meth c T locs cells slots) (hx : p.tables.exec = Jvm.exec) (hby : c.code = code) {o : Int} {b : Addr} (hd : decode code pc = .ok (.ifnonnull o, 3)) (hp : (pc : Int) + o = (pc' : Int)) (k : GolF p e below Fe Qf kc ks T m pc' Ls rest) : GolF p e below Fe Qf kc ks T m pc Ls (.ref b :: rest) :=
  Gol.step (fun _ k => XT.ifnonnullYes X.here hx rfl (pc0 := pc) rfl (hb hby hd) rfl (by rw [hp]; exact Int.natCast_nonneg _) (by rw [hp]; rfl) k) k
theorem Gol.ifnonnullNo (X : Stand p l e R s m args below meth c T locs cells slots) (hx : p.tables.exec = Jvm.exec) (hby : c.code = code) {o : Int} (hd : decode code pc = .ok (.ifnonnull o, 3)) (hp : pc + 3 = pc') (k : GolF p e below Fe Qf kc ks T m pc' Ls rest) : GolF p e below Fe Qf kc ks T m pc Ls (.null :: rest) := by
  subst hp
  exact Gol.step (fun _ k => XT.ifnonnullNo X.here hx rfl (hb hby hd) rfl k) k
theorem Gol.acmp (X : Stand p l e R s m args below meth c T locs cells slots) (hx : p.tables.exec = Jvm.exec) (hby : c.code = code) {cd : ACond} {o : Int} {x y : Value} (same : Bool) (hd : decode code pc = .ok (.if_acmp cd o, 3)) (h1 : x.isRef = true) (h2 : y.isRef = true) (hq : decide (x = y) = same) (ho : 0 ≤ (pc : Int) + o) (hp : pc' = if acV cd same = true then ((pc : Int) + o).toNat else pc + 3) (k : GolF p e below Fe Qf kc ks T m pc' Ls rest) : GolF p e below Fe Qf kc ks T m pc Ls (y :: x :: rest) :=
  Gol.step (fun _ k => Jvm.RoadKit.acmp (g := mkF m pc Ls (y :: x :: rest)) X hx rfl h1 h2 (pc0 := pc) (pc' := pc') rfl (hb hby hd) rfl hq ho hp k) k
theorem Gol.ldcInt (X : Stand p l e R s m args below meth c T locs cells slots) (hx : p.tables.exec = Jvm.exec) (hby : c.code = code) (hZ : Z.Warmed39 s.vm) {own : String} (hown : s.vm.findClass own = some m.cls) {index : Nat} {v : Int32} (hd : decode code pc = .ok (.ldc index, 2)) (hp : pc + 2 = pc') (w : (Cond.constant own index v).before a0 Z = true) (k : GolF p e below Fe Qf kc ks T m pc' Ls (.int v :: rest)) : GolF p e below Fe Qf kc ks T m pc Ls rest := by
  subst hp
  exact Gol.step (fun _ k => X.ldcInt hx hown (mvT hZ w) (g := mkF m pc Ls rest) rfl (hb hby hd) _ k) k
theorem Gol.ldcwInt (X : Stand p l e R s m args below meth c T locs cells slots) (hx : p.tables.exec = Jvm.exec) (hby : c.code = code) (hZ : Z.Warmed39 s.vm) {own : String} (hown : s.vm.findClass own = some m.cls) {index : Nat} {v : Int32} (hd : decode code pc = .ok (.ldc_w index, 3)) (hp : pc + 3 = pc') (w : (Cond.constant own index v).before a0 Z = true) (k : GolF p e below Fe Qf kc ks T m pc' Ls (.int v :: rest)) : GolF p e below Fe Qf kc ks T m pc Ls rest := by
  subst hp
  exact Gol.step (fun _ k => X.ldcwInt hx hown (mvT hZ w) (g := mkF m pc Ls rest) rfl (hb hby hd) _ k) k
theorem Gol.ldc2Long (X : Stand p l e R s m args below meth c T locs cells slots) (hx : p.tables.exec = Jvm.exec) (hby : c.code = code) (hZ : Z.Warmed39 s.vm) {own : String} (hown : s.vm.findClass own = some m.cls) {index : Nat} {v : Int64} (hd : decode code pc = .ok (.ldc2_w index, 3)) (hp : pc + 3 = pc') (w : (Cond.constantLong own index v).before a0 Z = true) (k : GolF p e below Fe Qf kc ks T m pc' Ls (.long v :: rest)) : GolF p e below Fe Qf kc ks T m pc Ls rest := by
  subst hp
  exact Gol.step (fun _ k => X.ldc2Long hx hown (mvT hZ w) (g := mkF m pc Ls rest) rfl (hb hby hd) _ k) k
theorem Gol.iaload (X : Stand p l e R s m args below meth c T locs cells slots) (hx : p.tables.exec = Jvm.exec) (hby : c.code = code) (hZ : Z.Warmed39 s.vm) (eT : T.heap = h) {a : Addr} {ka : ClassId} {z j : Int32} {vs : List Value} {dv : Value} {v : Int32} (A : Arv Z h a ka .int z vs dv) (hd : decode code pc = .ok (.iaload, 1)) (hp : pc + 1 = pc') (hj : ¬ j < 0 ∧ j < z) (hv : vs.getD j.toNatClampNeg dv = .int v) (k : GolF p e below Fe Qf kc ks T m pc' Ls (.int v :: rest)) : GolF p e below Fe Qf kc ks T m pc Ls (.int j :: .ref a :: rest) := by
  subst hp
  obtain ⟨cl, Ar, -, S, -, Hs, -⟩ := A
  have hin := inb_of S hj
  exact Gol.step (fun _ k => X.iaload hx (by rw [eT]; exact Ar.1) (State.isArrayOf_alike hZ.alike Ar.2.1) Ar.2.2 hin (Has.at Hs hin hv) (g := mkF m pc Ls (.int j :: .ref a :: rest)) rfl rfl (hb hby hd) _ k) k
theorem Gol.baload (X : Stand p l e R s m args below meth c T locs cells slots) (hx : p.tables.exec = Jvm.exec) (hby : c.code = code) (hZ : Z.Warmed39 s.vm) (eT : T.heap = h) {a : Addr} {ka : ClassId} {z j : Int32} {vs : List Value} {dv : Value} {v : Int32} (A : Arv Z h a ka .byte z vs dv) (hd : decode code pc = .ok (.baload, 1)) (hp : pc + 1 = pc') (hj : ¬ j < 0 ∧ j < z) (hv : vs.getD j.toNatClampNeg dv = .int v) (k : GolF p e below Fe Qf kc ks T m pc' Ls (.int v :: rest)) : GolF p e below Fe Qf kc ks T m pc Ls (.int j :: .ref a :: rest) := by
  subst hp
  obtain ⟨cl, Ar, -, S, -, Hs, -⟩ := A
  have hin := inb_of S hj
  exact Gol.step (fun _ k => X.baloadBytes hx (by rw [eT]; exact Ar.1) (State.isArrayOf_alike hZ.alike Ar.2.1) Ar.2.2 hin (Has.at Hs hin hv) (g := mkF m pc Ls (.int j :: .ref a :: rest)) rfl rfl (hb hby hd) _ k) k
theorem Gol.caload (X : Stand p l e R s m args below meth c T locs cells slots) (hx : p.tables.exec = Jvm.exec) (hby : c.code = code) (hZ : Z.Warmed39 s.vm) (eT : T.heap = h) {a : Addr} {ka : ClassId} {z j : Int32} {vs : List Value} {dv : Value} {v : Int32} (A : Arv Z h a ka .char z vs dv) (hd : decode code pc = .ok (.caload, 1)) (hp : pc + 1 = pc') (hj : ¬ j < 0 ∧ j < z) (hv : vs.getD j.toNatClampNeg dv = .int v) (k : GolF p e below Fe Qf kc ks T m pc' Ls (.int v :: rest)) : GolF p e below Fe Qf kc ks T m pc Ls (.int j :: .ref a :: rest) := by
  subst hp
  obtain ⟨cl, Ar, -, S, -, Hs, -⟩ := A
  have hin := inb_of S hj
  exact Gol.step (fun _ k => X.caload hx (by rw [eT]; exact Ar.1) (State.isArrayOf_alike hZ.alike Ar.2.1) Ar.2.2 hin (Has.at Hs hin hv) (g := mkF m pc Ls (.int j :: .ref a :: rest)) rfl rfl (hb hby hd) _ k) k
theorem Gol.laload (X : Stand p l e R s m args below meth c T locs cells slots) (hx : p.tables.exec = Jvm.exec) (hby : c.code = code) (hZ : Z.Warmed39 s.vm) (eT : T.heap = h) {a : Addr} {ka : ClassId} {z j : Int32} {vs : List Value} {dv : Value} {v : Int64} (A : Arv Z h a ka .long z vs dv) (hd : decode code pc = .ok (.laload, 1)) (hp : pc + 1 = pc') (hj : ¬ j < 0 ∧ j < z) (hv : vs.getD j.toNatClampNeg dv = .long v) (k : GolF p e below Fe Qf kc ks T m pc' Ls (.long v :: rest)) : GolF p e below Fe Qf kc ks T m pc Ls (.int j :: .ref a :: rest) := by
  subst hp
  obtain ⟨cl, Ar, -, S, -, Hs, -⟩ := A
  have hin := inb_of S hj
  exact Gol.step (fun _ k => X.laload hx (by rw [eT]; exact Ar.1) (State.isArrayOf_alike hZ.alike Ar.2.1) Ar.2.2 hin (Has.at Hs hin hv) (g := mkF m pc Ls (.int j :: .ref a :: rest)) rfl rfl (hb hby hd) _ k) k
theorem Gol.aaload (X : Stand p l e R s m args below meth c T locs cells slots) (hx : p.tables.exec = Jvm.exec) (hby : c.code = code) (hZ : Z.Warmed39 s.vm) (eT : T.heap = h) {a : Addr} {ka : ClassId} {ty : FieldType} {z j : Int32} {vs : List Value} {dv v : Value} (A : Arv Z h a ka ty z vs dv) (hd : decode code pc = .ok (.aaload, 1)) (hp : pc + 1 = pc') (ht : ty.isReference = true) (hj : ¬ j < 0 ∧ j < z) (hv : vs.getD j.toNatClampNeg dv = v) (k : GolF p e below Fe Qf kc ks T m pc' Ls (v :: rest)) : GolF p e below Fe Qf kc ks T m pc Ls (.int j :: .ref a :: rest) := by
  subst hp
  obtain ⟨cl, Ar, -, S, -, Hs, -⟩ := A
  have hin := inb_of S hj
  exact Gol.step (fun _ k => X.aaload hx (by rw [eT]; exact Ar.1) (State.isArrayOf_alike hZ.alike Ar.2.1) ht Ar.2.2 hin (Has.at Hs hin hv) (g := mkF m pc Ls (.int j :: .ref a :: rest)) rfl rfl (hb hby hd) _ k) k
theorem Gol.alen (X : Stand p l e R s m args below meth c T locs cells slots) (hx : p.tables.exec = Jvm.exec) (hby : c.code = code) (hZ : Z.Warmed39 s.vm) (eT : T.heap = h) {a : Addr} {ka : ClassId} {ty : FieldType} {z : Int32} {vs : List Value} {dv : Value} (A : Arv Z h a ka ty z vs dv) (hd : decode code pc = .ok (.arraylength, 1)) (hp : pc + 1 = pc') (k : GolF p e below Fe Qf kc ks T m pc' Ls (.int z :: rest)) : GolF p e below Fe Qf kc ks T m pc Ls (.ref a :: rest) := by
  subst hp
  obtain ⟨cl, Ar, -, S, M, -, -⟩ := A
  rw [← len_of S M] at k
  exact Gol.step (fun _ k => X.arraylength hx (by rw [eT]; exact Ar.1) (State.isArrayOf_alike hZ.alike Ar.2.1) (g := mkF m pc Ls (.ref a :: rest)) rfl rfl (hb hby hd) _ k) k
theorem Gol.iastore (X : Stand p l e R s m args below meth c T locs cells slots) (hx : p.tables.exec = Jvm.exec) (hby : c.code = code) (hZ : Z.Warmed39 s.vm) (eT : T.heap = h) {a : Addr} {ka : ClassId} {z j : Int32} {x : Int32} {vs : List Value} {dv : Value} (A : Arv Z h a ka .int z vs dv) (hd : decode code pc = .ok (.iastore, 1)) (hp : pc + 1 = pc') (hj : ¬ j < 0 ∧ j < z) (i : Nat) (hi : j.toNatClampNeg = i) (hl : i < vs.length)
    (k : ∀ (T' : State) (h' : Heap), Stand p l e R s m args below meth c T' (locs ++ [⟨a, j.toNatClampNeg⟩]) cells slots → T'.heap = h' → Wr h h' a j.toNatClampNeg (.int x) → Arv Z h' a ka .int z (vs.set i (.int x)) dv → GolF p e below Fe Qf kc ks T' m pc' Ls rest) : GolF p e below Fe Qf kc ks T m pc Ls (.int x :: .int j :: .ref a :: rest) := by
  subst hp
  obtain ⟨cl, Ar, q, S, M, Hs, G⟩ := A
  have hin := inb_of S hj
  obtain ⟨T', h', X', e', W, st⟩ := stI X hx hZ eT Ar (j := j) hin (g := mkF m pc Ls (.int x :: .int j :: .ref a :: rest)) rfl rfl (hb hby hd)
  exact Gol.step st (k T' h' X' e' W (Arv.set Ar q S M Hs G rfl W i hi hl))
theorem Gol.lastore (X : Stand p l e R s m args below meth c T locs cells slots) (hx : p.tables.exec = Jvm.exec) (hby : c.code = code) (hZ : Z.Warmed39 s.vm) (eT : T.heap = h) {a : Addr} {ka : ClassId} {z j : Int32} {x : Int64} {vs : List Value} {dv : Value} (A : Arv Z h a ka .long z vs dv) (hd : decode code pc = .ok (.lastore, 1)) (hp : pc + 1 = pc') (hj : ¬ j < 0 ∧ j < z) (i : Nat) (hi : j.toNatClampNeg = i) (hl : i < vs.length)
    (k : ∀ (T' : State) (h' : Heap), Stand p l e R s m args below meth c T' (locs ++ [⟨a, j.toNatClampNeg⟩]) cells slots → T'.heap = h' → Wr h h' a j.toNatClampNeg (.long x) → Arv Z h' a ka .long z (vs.set i (.long x)) dv → GolF p e below Fe Qf kc ks T' m pc' Ls rest) : GolF p e below Fe Qf kc ks T m pc Ls (.long x :: .int j :: .ref a :: rest) := by
  subst hp
  obtain ⟨cl, Ar, q, S, M, Hs, G⟩ := A
  have hin := inb_of S hj
  obtain ⟨T', h', X', e', W, st⟩ := stJ X hx hZ eT Ar (j := j) hin (g := mkF m pc Ls (.long x :: .int j :: .ref a :: rest)) rfl rfl (hb hby hd)
  exact Gol.step st (k T' h' X' e' W (Arv.set Ar q S M Hs G rfl W i hi hl))
theorem Gol.bastore (X : Stand p l e R s m args below meth c T locs cells slots) (hx : p.tables.exec = Jvm.exec) (hby : c.code = code) (hZ : Z.Warmed39 s.vm) (eT : T.heap = h) {a : Addr} {ka : ClassId} {z j : Int32} {x : Int32} {vs : List Value} {dv : Value} (A : Arv Z h a ka .byte z vs dv) (hd : decode code pc = .ok (.bastore, 1)) (hp : pc + 1 = pc') (hj : ¬ j < 0 ∧ j < z) (i : Nat) (hi : j.toNatClampNeg = i) (hl : i < vs.length)
    (k : ∀ (T' : State) (h' : Heap), Stand p l e R s m args below meth c T' (locs ++ [⟨a, j.toNatClampNeg⟩]) cells slots → T'.heap = h' → Wr h h' a j.toNatClampNeg (.int (nar .byte x)) → Arv Z h' a ka .byte z (vs.set i (.int (nar .byte x))) dv → GolF p e below Fe Qf kc ks T' m pc' Ls rest) : GolF p e below Fe Qf kc ks T m pc Ls (.int x :: .int j :: .ref a :: rest) := by
  subst hp
  obtain ⟨cl, Ar, q, S, M, Hs, G⟩ := A
  have hin := inb_of S hj
  obtain ⟨T', h', X', e', W, st⟩ := stB X hx hZ eT Ar (j := j) hin (g := mkF m pc Ls (.int x :: .int j :: .ref a :: rest)) rfl rfl (hb hby hd)
  exact Gol.step st (k T' h' X' e' W (Arv.set Ar q S M Hs G (fits_nar_byte _) W i hi hl))
theorem Gol.castore (X : Stand p l e R s m args below meth c T locs cells slots) (hx : p.tables.exec = Jvm.exec) (hby : c.code = code) (hZ : Z.Warmed39 s.vm) (eT : T.heap = h) {a : Addr} {ka : ClassId} {z j : Int32} {x : Int32} {vs : List Value} {dv : Value} (A : Arv Z h a ka .char z vs dv) (hd : decode code pc = .ok (.castore, 1)) (hp : pc + 1 = pc') (hj : ¬ j < 0 ∧ j < z) (i : Nat) (hi : j.toNatClampNeg = i) (hl : i < vs.length)
    (k : ∀ (T' : State) (h' : Heap), Stand p l e R s m args below meth c T' (locs ++ [⟨a, j.toNatClampNeg⟩]) cells slots → T'.heap = h' → Wr h h' a j.toNatClampNeg (.int (nar .char x)) → Arv Z h' a ka .char z (vs.set i (.int (nar .char x))) dv → GolF p e below Fe Qf kc ks T' m pc' Ls rest) : GolF p e below Fe Qf kc ks T m pc Ls (.int x :: .int j :: .ref a :: rest) := by
  subst hp
  obtain ⟨cl, Ar, q, S, M, Hs, G⟩ := A
  have hin := inb_of S hj
  obtain ⟨T', h', X', e', W, st⟩ := stC X hx hZ eT Ar (j := j) hin (g := mkF m pc Ls (.int x :: .int j :: .ref a :: rest)) rfl rfl (hb hby hd)
  exact Gol.step st (k T' h' X' e' W (Arv.set Ar q S M Hs G (fits_nar_char _) W i hi hl))
theorem Gol.aastore (X : Stand p l e R s m args below meth c T locs cells slots) (hx : p.tables.exec = Jvm.exec) (hby : c.code = code) (hZ : Z.Warmed39 s.vm) (eT : T.heap = h) {a : Addr} {ka : ClassId} {z j : Int32} {x : Value} {ty : FieldType} {vs : List Value} {dv : Value} (A : Arv Z h a ka ty z vs dv) (hd : decode code pc = .ok (.aastore, 1)) (hp : pc + 1 = pc') (hj : ¬ j < 0 ∧ j < z) (i : Nat) (hi : j.toNatClampNeg = i) (hl : i < vs.length) (ht : ty.isReference = true) (hf : fits ty x = true) (so : ∀ cl : Cell, Arr Z h a cl ty → cl.cls = ka → Sto Z h a x)
    (k : ∀ (T' : State) (h' : Heap), Stand p l e R s m args below meth c T' (locs ++ [⟨a, j.toNatClampNeg⟩]) cells slots → T'.heap = h' → Wr h h' a j.toNatClampNeg x → Arv Z h' a ka ty z (vs.set i x) dv → GolF p e below Fe Qf kc ks T' m pc' Ls rest) : GolF p e below Fe Qf kc ks T m pc Ls (x :: .int j :: .ref a :: rest) := by
  subst hp
  obtain ⟨cl, Ar, q, S, M, Hs, G⟩ := A
  have hin := inb_of S hj
  obtain ⟨T', h', X', e', W, st⟩ := stR X hx hZ eT Ar (j := j) hin ht (so cl Ar q) (g := mkF m pc Ls (x :: .int j :: .ref a :: rest)) rfl rfl (hb hby hd)
  exact Gol.step st (k T' h' X' e' W (Arv.set Ar q S M Hs G hf W i hi hl))
theorem Gol.newarr (X : Stand p l e R s m args below meth c T locs cells slots) (hx : p.tables.exec = Jvm.exec) (hby : c.code = code) (hZ : Z.Warmed39 s.vm) {aty : ArrayType} (w : (Cond.arrayClass (newarray.typeOf aty)).before a0 Z = true) (eT : T.heap = h) {n : Int32} (cap : Nat) (hd : decode code pc = .ok (.newarray aty, 2)) (hp : pc + 2 = pc') (hn : ¬ n < 0) (hcap : n.toNatClampNeg ≤ cap) (hb8 : cap * 8 ≤ 536870912) (hc : cells + 1 ≤ R.cells) (hl : slots + cap ≤ R.slots)
    (k : ∀ (T' : State) (h' : Heap) (ka : ClassId) (b : Addr), b = h.size → Stand p l e R s m args below meth c T' locs (cells + 1) (slots + cap) → T'.heap = h' → Ext h h' → Arv Z h' b ka (newarray.typeOf aty) n [] (defaultValue (newarray.typeOf aty)) → GolF p e below Fe Qf kc ks T' m pc' Ls (.ref b :: rest)) : GolF p e below Fe Qf kc ks T m pc Ls (.int n :: rest) := by
  subst hp
  obtain ⟨T', h', ka, X', e', E, A, st⟩ := newP X hx hZ w eT (g := mkF m pc Ls (.int n :: rest)) rfl (hb hby hd) rfl hn (cap := cap) hcap hb8 hc hl
  exact Gol.step st (k T' h' ka _ rfl X' e' E (Arv.new A hn))
theorem Gol.newref (X : Stand p l e R s m args below meth c T locs cells slots) (hx : p.tables.exec = Jvm.exec) (hby : c.code = code) (hZ : Z.Warmed39 s.vm) {own : String} (hown : s.vm.findClass own = some m.cls) {C : String} {index : Nat} (w1 : (Cond.classLink own index C).before a0 Z = true) (w2 : (Cond.arrayOver (.object C)).before a0 Z = true) (eT : T.heap = h) {n : Int32} (cap : Nat) (hd : decode code pc = .ok (.anewarray index, 3)) (hp : pc + 3 = pc') (hn : ¬ n < 0) (hcap : n.toNatClampNeg ≤ cap) (hb8 : cap * 8 ≤ 536870912) (hc : cells + 1 ≤ R.cells) (hl : slots + cap ≤ R.slots)
    (k : ∀ (T' : State) (h' : Heap) (ka : ClassId) (b : Addr), b = h.size → Stand p l e R s m args below meth c T' locs (cells + 1) (slots + cap) → T'.heap = h' → Ext h h' → Arv Z h' b ka (.object C) n [] .null → Ovr Z ka C → GolF p e below Fe Qf kc ks T' m pc' Ls (.ref b :: rest)) : GolF p e below Fe Qf kc ks T m pc Ls (.int n :: rest) := by
  subst hp
  obtain ⟨T', h', ka, X', e', E, A, O, st⟩ := newR X hx hZ hown w1 w2 eT (g := mkF m pc Ls (.int n :: rest)) rfl (hb hby hd) rfl hn (cap := cap) hcap hb8 hc hl
  exact Gol.step st (k T' h' ka _ rfl X' e' E (Arv.new A hn) O)
theorem Gol.getF (X : Stand p l e R s m args below meth c T locs cells slots) (hx : p.tables.exec = Jvm.exec) (hby : c.code = code) (hZ : Z.Warmed39 s.vm) {own : String} (hown : s.vm.findClass own = some m.cls) {R0 O n d host : String} {index : Nat} (w : (Cond.fieldLink own index R0 n d).before a0 Z = true ∨ (Cond.fieldLinkNest own index R0 n d host).before a0 Z = true) (via : Via Z R0 O n d) (eT : T.heap = h) {a : Addr} {v : Value} (F : Fld Z h a O n d v) (hd : decode code pc = .ok (.getfield index, 3)) (hp : pc + 3 = pc')
    (k : ∀ T' : State, Stand p l e R s m args below meth c T' locs cells slots → T'.heap = h → GolF p e below Fe Qf kc ks T' m pc' Ls (v :: rest)) : GolF p e below Fe Qf kc ks T m pc Ls (.ref a :: rest) := by
  subst hp
  obtain ⟨T', X', e', st⟩ := getF X hx hZ hown (host := host) w via eT F (g := mkF m pc Ls (.ref a :: rest)) rfl rfl (hb hby hd)
  exact Gol.step st (k T' X' e')
theorem Gol.getS (X : Stand p l e R s m args below meth c T locs cells slots) (hx : p.tables.exec = Jvm.exec) (hby : c.code = code) (hZ : Z.Warmed39 s.vm) {own : String} (hown : s.vm.findClass own = some m.cls) {R0 O n d host : String} {index : Nat} (w : (Cond.fieldLink own index R0 n d).before a0 Z = true ∨ (Cond.fieldLinkNest own index R0 n d host).before a0 Z = true) (via : Via Z R0 O n d) (eT : T.heap = h) {v : Value} (F : Sta Z h O n d v) (hd : decode code pc = .ok (.getstatic index, 3)) (hp : pc + 3 = pc')
    (k : ∀ T' : State, Stand p l e R s m args below meth c T' locs cells slots → T'.heap = h → GolF p e below Fe Qf kc ks T' m pc' Ls (v :: rest)) : GolF p e below Fe Qf kc ks T m pc Ls rest := by
  subst hp
  obtain ⟨T', X', e', st⟩ := getS2 X hx hZ hown (host := host) w via eT F (g := mkF m pc Ls rest) rfl (hb hby hd)
  exact Gol.step st (k T' X' e')
theorem Gol.putF (X : Stand p l e R s m args below meth c T locs cells slots) (hx : p.tables.exec = Jvm.exec) (hby : c.code = code) (hZ : Z.Warmed39 s.vm) {own : String} (hown : s.vm.findClass own = some m.cls) {R0 O n d host : String} {index : Nat} (w : (Cond.fieldLink own index R0 n d).before a0 Z = true ∨ (Cond.fieldLinkNest own index R0 n d host).before a0 Z = true) (via : Via Z R0 O n d) (eT : T.heap = h) {C : String} {kk : Nat} {ty : FieldType} {a : Addr} {v old : Value} (F : Fld Z h a O n d old) (E : Exa Z h a C) (L : (Cond.lays C O n d).before a0 Z = true ∨ ((Cond.laysFinal C O n d).before a0 Z = true ∧ own = O ∧ meth.name = "<init>")) (wi : (Cond.instantiable C kk).before a0 Z = true) (hty : parseFieldDescriptor d = some ty) (hn : narrow ty v = v) (hf : fits ty v = true) (hd : decode code pc = .ok (.putfield index, 3)) (hp : pc + 3 = pc')
    (k : ∀ (T' : State) (h' : Heap), Stand p l e R s m args below meth c T' (locs ++ [⟨a, slotOf Z O n d⟩]) cells slots → T'.heap = h' → Wr h h' a (slotOf Z O n d) v → GolF p e below Fe Qf kc ks T' m pc' Ls rest) : GolF p e below Fe Qf kc ks T m pc Ls (v :: .ref a :: rest) := by
  subst hp
  obtain ⟨T', h', X', e', W, st⟩ := putF X hx hZ hown (host := host) w via eT F E L wi hty hn hf (g := mkF m pc Ls (v :: .ref a :: rest)) rfl rfl (hb hby hd)
  exact Gol.step st (k T' h' X' e' W)
theorem Gol.putFN (X : Stand p l e R s m args below meth c T locs cells slots) (hx : p.tables.exec = Jvm.exec) (hby : c.code = code) (hZ : Z.Warmed39 s.vm) {own : String} (hown : s.vm.findClass own = some m.cls) {R0 O n d : String} {index : Nat} (w : (Cond.fieldLink own index R0 n d).before a0 Z = true) (via : Via Z R0 O n d) (eT : T.heap = h) {C : String} {kk : Nat} {ty : FieldType} {a : Addr} {v v' old : Value} (F : Fld Z h a O n d old) (E : Exa Z h a C) (L : (Cond.lays C O n d).before a0 Z = true ∨ ((Cond.laysFinal C O n d).before a0 Z = true ∧ own = O ∧ meth.name = "<init>")) (wi : (Cond.instantiable C kk).before a0 Z = true) (hty : parseFieldDescriptor d = some ty) (hn : narrow ty v = v') (hf : fits ty v' = true) (hd : decode code pc = .ok (.putfield index, 3)) (hp : pc + 3 = pc')
    (k : ∀ (T' : State) (h' : Heap), Stand p l e R s m args below meth c T' (locs ++ [⟨a, slotOf Z O n d⟩]) cells slots → T'.heap = h' → Wr h h' a (slotOf Z O n d) v' → GolF p e below Fe Qf kc ks T' m pc' Ls rest) : GolF p e below Fe Qf kc ks T m pc Ls (v :: .ref a :: rest) := by
  subst hp
  obtain ⟨T', h', X', e', W, st⟩ := putFN X hx hZ hown w via eT F E L wi hty hn hf (g := mkF m pc Ls (v :: .ref a :: rest)) rfl rfl (hb hby hd)
  exact Gol.step st (k T' h' X' e' W)
theorem Gol.newO (X : Stand p l e R s m args below meth c T locs cells slots) (hx : p.tables.exec = Jvm.exec) (hby : c.code = code) (hZ : Z.Warmed39 s.vm) {own : String} (hown : s.vm.findClass own = some m.cls) {C : String} {index n : Nat} (w : (Cond.classLink own index C).before a0 Z = true) (wi : (Cond.instantiable C n).before a0 Z = true) (wz : (Cond.initialized C).before a0 Z = true) (eT : T.heap = h) (hd : decode code pc = .ok (.new index, 3)) (hp : pc + 3 = pc') (hc : cells + 1 ≤ R.cells) (hl : slots + n ≤ R.slots)
    (k : ∀ (T' : State) (h' : Heap) (b : Addr), b = h.size → Stand p l e R s m args below meth c T' locs (cells + 1) (slots + n) → T'.heap = h' → Ext h h' → Exa Z h' b C → (∀ {O nm d : String} {ty : FieldType}, Laid Z a0 C O nm d → parseFieldDescriptor d = some ty → Fld Z h' b O nm d (defaultValue ty)) → GolF p e below Fe Qf kc ks T' m pc' Ls (.ref b :: rest)) : GolF p e below Fe Qf kc ks T m pc Ls rest := by
  subst hp
  obtain ⟨T', h', X', e', E, A, D, -, st⟩ := newO X hx hZ hown w wi wz eT (g := mkF m pc Ls rest) rfl (hb hby hd) hc hl
  exact Gol.step st (k T' h' _ rfl X' e' E A D)
theorem Gol.initO (X : Stand p l e R s m args below meth c T locs cells slots) (hx : p.tables.exec = Jvm.exec) (hby : c.code = code) (hZ : Z.Warmed39 s.vm) {own : String} (hown : s.vm.findClass own = some m.cls) {index : Nat} (w1 : (Cond.methodLink own index Lib.objectInit).before a0 Z = true) (w2 : (Cond.instanceMethod Lib.objectInit).before a0 Z = true) (w3 : (Cond.code Lib.objectInit ⟨#[0xb1]⟩ 1 none).before a0 Z = true) (eT : T.heap = h) (W : Nat) {a : Addr} (hd : decode code pc = .ok (.invokespecial index, 3)) (hp : pc + 3 = pc') (hsz : Ls.size = c.maxLocals) (hf : 1 ≤ R.frames) (hW : (rest.map fun v => v.category).sum ≤ W) (hl : W + 12 ≤ R.locals)
    (k : ∀ T' : State, Stand p l e R s m args below meth c T' locs cells slots → T'.heap = h → GolF p e below Fe Qf kc ks T' m pc' Ls rest) : GolF p e below Fe Qf kc ks T m pc Ls (.ref a :: rest) := by
  subst hp
  obtain ⟨T', X', e', st⟩ := initO X hx hZ hown w1 w2 w3 eT (g := mkF m pc Ls (.ref a :: rest)) rfl hsz rfl (hb hby hd) hf (W := W) (by show 2 * 0 + _ ≤ _; rw [Nat.mul_zero, Nat.zero_add]; exact hW) hl
  exact Gol.step st (k T' X' e')
theorem Gol.castY (X : Stand p l e R s m args below meth c T locs cells slots) (hx : p.tables.exec = Jvm.exec) (hby : c.code = code) (hZ : Z.Warmed39 s.vm) {own : String} (hown : s.vm.findClass own = some m.cls) {K : String} {index : Nat} (w : (Cond.classLink own index K).before a0 Z = true) (eT : T.heap = h) {a : Addr} (F : Ins Z h a K true) (hd : decode code pc = .ok (.checkcast index, 3)) (hp : pc + 3 = pc')
    (k : ∀ T' : State, Stand p l e R s m args below meth c T' locs cells slots → T'.heap = h → GolF p e below Fe Qf kc ks T' m pc' Ls (.ref a :: rest)) : GolF p e below Fe Qf kc ks T m pc Ls (.ref a :: rest) := by
  subst hp
  obtain ⟨T', X', e', st⟩ := castY X hx hZ hown w eT F (g := mkF m pc Ls (.ref a :: rest)) rfl rfl (hb hby hd)
  exact Gol.step st (k T' X' e')
theorem Gol.instY (X : Stand p l e R s m args below meth c T locs cells slots) (hx : p.tables.exec = Jvm.exec) (hby : c.code = code) (hZ : Z.Warmed39 s.vm) {own : String} (hown : s.vm.findClass own = some m.cls) {K : String} {index : Nat} (w : (Cond.classLink own index K).before a0 Z = true) (eT : T.heap = h) {a : Addr} (F : Ins Z h a K true) (hd : decode code pc = .ok (.instanceof index, 3)) (hp : pc + 3 = pc')
    (k : ∀ T' : State, Stand p l e R s m args below meth c T' locs cells slots → T'.heap = h → GolF p e below Fe Qf kc ks T' m pc' Ls (.int 1 :: rest)) : GolF p e below Fe Qf kc ks T m pc Ls (.ref a :: rest) := by
  subst hp
  obtain ⟨T', X', e', st⟩ := instY X hx hZ hown w eT F (g := mkF m pc Ls (.ref a :: rest)) rfl rfl (hb hby hd)
  exact Gol.step st (k T' X' e')
theorem Gol.callS (X : Stand p l e R s m args below meth c T locs cells slots) (hx : p.tables.exec = Jvm.exec) (hby : c.code = code) (hZ : Z.Warmed39 s.vm) {own : String} (hown : s.vm.findClass own = some m.cls) {index : Nat} {y : MethodName} {bytes : ByteArray} {maxL : Nat} {ret : Option FieldType} {rm : Room} {Q : Option Value → Heap → List Loc → Prop} (W : Nat) (argsL : List Value) (wl : (Cond.methodLink own index y).before a0 Z = true) (ws : (Cond.static y).before a0 Z = true) (wz : (Cond.initialized y.cls).before a0 Z = true) (wc : (Cond.code y bytes maxL ret).before a0 Z = true) (hy : y.cls ≠ "java/lang/invoke/MethodHandle" ∧ y.cls ≠ "java/lang/invoke/VarHandle") (hM : MetFree l y (head1 [Cond.code y bytes maxL ret] rm) (fun aa U => aa = argsL.toArray ∧ Z.Warmed39 U.vm ∧ U.heap = h) (fun _ _ _ _ _ => True) (fun _ U o U' => ∃ v L, o = .returned v ∧ Q v U'.heap L ∧ FrameEnd U o U' L rm.cells rm.slots)) (hf : rm.frames + 1 ≤ R.frames) (hl : W + (maxL + 11) + rm.locals ≤ R.locals) (eT : T.heap = h) {st : List Value} (hsz : Ls.size = c.maxLocals) (hW : (rest.map fun v => v.category).sum ≤ W) (hc : cells + rm.cells ≤ R.cells) (hs : slots + rm.slots ≤ R.slots) (hlen : ∀ sig, parseMethodDescriptor y.desc = some sig → argsL.length = sig.parameters.length) (hst : st = argsL.reverse ++ rest) (hd : decode code pc = .ok (.invokestatic index, 3)) (hp : pc + 3 = pc')
    (k : ∀ (T' : State) (v : Option Value) (L : List Loc), Stand p l e R s m args below meth c T' (locs ++ L) (cells + rm.cells) (slots + rm.slots) → Q v T'.heap L → GolF p e below Fe Qf kc ks T' m pc' Ls (v.toList ++ rest)) : GolF p e below Fe Qf kc ks T m pc Ls st := by
  subst hp
  obtain ⟨v, _, ⟨T', L1, k1, n1⟩, -, X', ⟨Lc, hQ, l1, y1, z1⟩, st1⟩ := Jvm.LawKit.callS X hx hown (mvT hZ wl) (mvT hZ ws) (mvT hZ wz) (mvT hZ wc) hy (backOf (W := W) hM hZ wc wz hf hl) (g := mkF m pc Ls st) rfl hsz hlen hst (by show 2 * 0 + _ ≤ _; rw [Nat.mul_zero, Nat.zero_add]; exact hW) (hb hby hd) (fun _ _ => ⟨rfl, eT, hc, hs⟩)
  dsimp only [Pt.U, Pt.locs, Pt.cells, Pt.slots] at X' l1 y1 z1 st1 hQ
  subst l1 y1 z1
  exact Gol.step st1 (k T' v Lc X' hQ)
theorem Gol.callI (X : Stand p l e R s m args below meth c T locs cells slots) (hx : p.tables.exec = Jvm.exec) (hby : c.code = code) (hZ : Z.Warmed39 s.vm) {own : String} (hown : s.vm.findClass own = some m.cls) {index : Nat} {y : MethodName} {bytes : ByteArray} {maxL : Nat} {ret : Option FieldType} {rm : Room} {Q : Option Value → Heap → List Loc → Prop} (W : Nat) (argsL : List Value) {a : Addr} (wl : (Cond.methodLink own index y).before a0 Z = true) (wi : (Cond.instanceMethod y).before a0 Z = true) (wz : (Cond.initialized y.cls).before a0 Z = true) (hrt : ret = none) (wc : (Cond.code y bytes maxL ret).before a0 Z = true) (hn : y.name = "<init>") (hy : y.cls ≠ "java/lang/invoke/MethodHandle" ∧ y.cls ≠ "java/lang/invoke/VarHandle") (hM : MetFree l y (head1 [Cond.code y bytes maxL ret] rm) (fun aa U => aa = (.ref a :: argsL).toArray ∧ Z.Warmed39 U.vm ∧ U.heap = h) (fun _ _ _ _ _ => True) (fun _ U o U' => ∃ v L, o = .returned v ∧ Q v U'.heap L ∧ FrameEnd U o U' L rm.cells rm.slots)) (hf : rm.frames + 1 ≤ R.frames) (hl : W + (maxL + 11) + rm.locals ≤ R.locals) (eT : T.heap = h) {st : List Value} (hsz : Ls.size = c.maxLocals) (hW : (rest.map fun v => v.category).sum ≤ W) (hc : cells + rm.cells ≤ R.cells) (hs : slots + rm.slots ≤ R.slots) (hlen : ∀ sig, parseMethodDescriptor y.desc = some sig → argsL.length = sig.parameters.length) (hst : st = argsL.reverse ++ .ref a :: rest) (hd : decode code pc = .ok (.invokespecial index, 3)) (hp : pc + 3 = pc')
    (k : ∀ (T' : State) (v : Option Value) (L : List Loc), Stand p l e R s m args below meth c T' (locs ++ L) (cells + rm.cells) (slots + rm.slots) → Q v T'.heap L → GolF p e below Fe Qf kc ks T' m pc' Ls (v.toList ++ rest)) : GolF p e below Fe Qf kc ks T m pc Ls st := by
  subst hp hrt
  obtain ⟨v, _, ⟨T', L1, k1, n1⟩, -, X', ⟨Lc, hQ, l1, y1, z1⟩, st1⟩ := X.specialBack hx hn hown (mvT hZ wl) (mvT hZ wi) (mvT hZ wc) hy (backOf (W := W) hM hZ wc wz hf hl) (g := mkF m pc Ls st) rfl hsz (Steps.refl _) (a := a) hlen hst (by show 2 * 0 + _ ≤ _; rw [Nat.mul_zero, Nat.zero_add]; exact hW) (hb hby hd) (fun _ _ => ⟨rfl, eT, hc, hs⟩)
  dsimp only [Pt.U, Pt.locs, Pt.cells, Pt.slots] at X' l1 y1 z1 st1 hQ
  subst l1 y1 z1
  exact Gol.step (fun _ k => st1.trans k) (k T' v Lc X' hQ)
theorem Gol.callV (X : Stand p l e R s m args below meth c T locs cells slots) (hx : p.tables.exec = Jvm.exec) (hby : c.code = code) (hZ : Z.Warmed39 s.vm) {own : String} (hown : s.vm.findClass own = some m.cls) {index : Nat} {y z : MethodName} {C : String} {bytes : ByteArray} {maxL : Nat} {ret : Option FieldType} {rm : Room} {Q : Option Value → Heap → List Loc → Prop} (W : Nat) (argsL : List Value) {a : Addr} (wl : (Cond.methodLink own index y).before a0 Z = true) (wd : (Cond.declares y).before a0 Z = true) (nf : NotFace s y) (wse : (Cond.selects C y z).before a0 Z = true) (wi : (Cond.instanceMethod z).before a0 Z = true) (wz : (Cond.initialized z.cls).before a0 Z = true) (wc : (Cond.code z bytes maxL ret).before a0 Z = true) (hy : y.cls ≠ "java/lang/invoke/MethodHandle" ∧ y.cls ≠ "java/lang/invoke/VarHandle") (E : Exa Z h a C) (hM : MetFree l z (head1 [Cond.code z bytes maxL ret] rm) (fun aa U => aa = (.ref a :: argsL).toArray ∧ Z.Warmed39 U.vm ∧ U.heap = h) (fun _ _ _ _ _ => True) (fun _ U o U' => ∃ v L, o = .returned v ∧ Q v U'.heap L ∧ FrameEnd U o U' L rm.cells rm.slots)) (hf : rm.frames + 1 ≤ R.frames) (hl : W + (maxL + 11) + rm.locals ≤ R.locals) (eT : T.heap = h) {st : List Value} (hsz : Ls.size = c.maxLocals) (hW : (rest.map fun v => v.category).sum ≤ W) (hc : cells + rm.cells ≤ R.cells) (hs : slots + rm.slots ≤ R.slots) (hlen : ∀ sig, parseMethodDescriptor y.desc = some sig → argsL.length = sig.parameters.length) (hst : st = argsL.reverse ++ .ref a :: rest) (hd : decode code pc = .ok (.invokevirtual index, 3)) (hp : pc + 3 = pc')
    (k : ∀ (T' : State) (v : Option Value) (L : List Loc), Stand p l e R s m args below meth c T' (locs ++ L) (cells + rm.cells) (slots + rm.slots) → Q v T'.heap L → GolF p e below Fe Qf kc ks T' m pc' Ls (v.toList ++ rest)) : GolF p e below Fe Qf kc ks T m pc Ls st := by
  subst hp
  obtain ⟨cq, kq, qa, qb, qc⟩ := isOf hZ eT E
  obtain ⟨v, _, ⟨T', L1, k1, n1⟩, -, X', ⟨Lc, hQ, l1, y1, z1⟩, st1⟩ := X.virtualBack hx hown (mvT hZ wl) (mvT hZ wd) nf (mvT hZ wse) (mvT hZ wi) hy (backOf (W := W) hM hZ wc wz hf hl) qa qc (g := mkF m pc Ls st) rfl hsz (Steps.refl _) hlen hst (by show 2 * 0 + _ ≤ _; rw [Nat.mul_zero, Nat.zero_add]; exact hW) (hb hby hd) (fun _ _ => ⟨rfl, eT, hc, hs⟩)
  dsimp only [Pt.U, Pt.locs, Pt.cells, Pt.slots] at X' l1 y1 z1 st1 hQ
  subst l1 y1 z1
  exact Gol.step (fun _ k => st1.trans k) (k T' v Lc X' hQ)
theorem Gol.callF (X : Stand p l e R s m args below meth c T locs cells slots) (hx : p.tables.exec = Jvm.exec) (hby : c.code = code) (hZ : Z.Warmed39 s.vm) {own : String} (hown : s.vm.findClass own = some m.cls) {index count : Nat} {y z : MethodName} {C : String} {bytes : ByteArray} {maxL : Nat} {ret : Option FieldType} {rm : Room} {Q : Option Value → Heap → List Loc → Prop} (W : Nat) (argsL : List Value) {a : Addr} (wl : (Cond.methodLink own index y).before a0 Z = true) (wd : (Cond.declares y).before a0 Z = true) (wf : (Cond.interfaceMethod y.cls y.cls y.name y.desc).before args s = true) (wse : (Cond.selects C y z).before a0 Z = true) (wi : (Cond.instanceMethod z).before a0 Z = true) (wp : (Cond.publicMethod z).before a0 Z = true) (wu : (Cond.unhidden C y.name y.desc).before a0 Z = true) (wt : (Cond.castable C y.cls).before a0 Z = true) (wz : (Cond.initialized z.cls).before a0 Z = true) (wc : (Cond.code z bytes maxL ret).before a0 Z = true) (hy : y.cls ≠ "java/lang/invoke/MethodHandle" ∧ y.cls ≠ "java/lang/invoke/VarHandle") (E : Exa Z h a C) (hM : MetFree l z (head1 [Cond.code z bytes maxL ret] rm) (fun aa U => aa = (.ref a :: argsL).toArray ∧ Z.Warmed39 U.vm ∧ U.heap = h) (fun _ _ _ _ _ => True) (fun _ U o U' => ∃ v L, o = .returned v ∧ Q v U'.heap L ∧ FrameEnd U o U' L rm.cells rm.slots)) (hf : rm.frames + 1 ≤ R.frames) (hl : W + (maxL + 11) + rm.locals ≤ R.locals) (eT : T.heap = h) {st : List Value} (hsz : Ls.size = c.maxLocals) (hW : (rest.map fun v => v.category).sum ≤ W) (hc : cells + rm.cells ≤ R.cells) (hs : slots + rm.slots ≤ R.slots) (hlen : ∀ sig, parseMethodDescriptor y.desc = some sig → argsL.length = sig.parameters.length) (hst : st = argsL.reverse ++ .ref a :: rest) (hd : decode code pc = .ok (.invokeinterface index count, 5)) (hp : pc + 5 = pc')
    (k : ∀ (T' : State) (v : Option Value) (L : List Loc), Stand p l e R s m args below meth c T' (locs ++ L) (cells + rm.cells) (slots + rm.slots) → Q v T'.heap L → GolF p e below Fe Qf kc ks T' m pc' Ls (v.toList ++ rest)) : GolF p e below Fe Qf kc ks T m pc Ls st := by
  subst hp
  obtain ⟨cq, kq, qa, qb, qc⟩ := isOf hZ eT E
  obtain ⟨v, _, ⟨T', L1, k1, n1⟩, -, X', ⟨Lc, hQ, l1, y1, z1⟩, st1⟩ := X.interfaceBack hx hown (mvT hZ wl) (mvT hZ wd) wf (mvT hZ wse) (mvT hZ wi) (mvT hZ wp) (mvT hZ wu) (mvT hZ wt) hy (backOf (W := W) hM hZ wc wz hf hl) qa qb qc (g := mkF m pc Ls st) rfl hsz (Steps.refl _) hlen hst (by show 2 * 0 + _ ≤ _; rw [Nat.mul_zero, Nat.zero_add]; exact hW) (hb hby hd) (fun _ _ => ⟨rfl, eT, hc, hs⟩)
  dsimp only [Pt.U, Pt.locs, Pt.cells, Pt.slots] at X' l1 y1 z1 st1 hQ
  subst l1 y1 z1
  exact Gol.step (fun _ k => st1.trans k) (k T' v Lc X' hQ)
theorem Gol.callP (X : Stand p l e R s m args below meth c T locs cells slots) (hx : p.tables.exec = Jvm.exec) (hby : c.code = code) (hZ : Z.Warmed39 s.vm) {own : String} (hown : s.vm.findClass own = some m.cls) {index : Nat} {y : MethodName} {C : String} {bytes : ByteArray} {maxL : Nat} {ret : Option FieldType} {rm : Room} {Q : Option Value → Heap → List Loc → Prop} (W : Nat) (argsL : List Value) {a : Addr} (wl : (Cond.methodLink own index y).before a0 Z = true) (wi : (Cond.instanceMethod y).before a0 Z = true) (wse : (Cond.selects y.cls y y).before a0 Z = true) (wp : (Cond.privateMethod y).before a0 Z = true) (wz : (Cond.initialized y.cls).before a0 Z = true) (wc : (Cond.code y bytes maxL ret).before a0 Z = true) (hy : y.cls ≠ "java/lang/invoke/MethodHandle" ∧ y.cls ≠ "java/lang/invoke/VarHandle") (E : Exa Z h a C) (hM : MetFree l y (head1 [Cond.code y bytes maxL ret] rm) (fun aa U => aa = (.ref a :: argsL).toArray ∧ Z.Warmed39 U.vm ∧ U.heap = h) (fun _ _ _ _ _ => True) (fun _ U o U' => ∃ v L, o = .returned v ∧ Q v U'.heap L ∧ FrameEnd U o U' L rm.cells rm.slots)) (hf : rm.frames + 1 ≤ R.frames) (hl : W + (maxL + 11) + rm.locals ≤ R.locals) (eT : T.heap = h) {st : List Value} (hsz : Ls.size = c.maxLocals) (hW : (rest.map fun v => v.category).sum ≤ W) (hc : cells + rm.cells ≤ R.cells) (hs : slots + rm.slots ≤ R.slots) (hlen : ∀ sig, parseMethodDescriptor y.desc = some sig → argsL.length = sig.parameters.length) (hst : st = argsL.reverse ++ .ref a :: rest) (hd : decode code pc = .ok (.invokevirtual index, 3)) (hp : pc + 3 = pc')
    (k : ∀ (T' : State) (v : Option Value) (L : List Loc), Stand p l e R s m args below meth c T' (locs ++ L) (cells + rm.cells) (slots + rm.slots) → Q v T'.heap L → GolF p e below Fe Qf kc ks T' m pc' Ls (v.toList ++ rest)) : GolF p e below Fe Qf kc ks T m pc Ls st := by
  subst hp
  obtain ⟨cq, qa, qb⟩ := E.cell
  obtain ⟨v, _, ⟨T', L1, k1, n1⟩, -, X', ⟨Lc, hQ, l1, y1, z1⟩, st1⟩ := X.privateBack hx hown (mvT hZ wl) (mvT hZ wi) (mvT hZ wse) (Cond.privateMethod_at (mvP hZ wp (args := #[]))) (mvT hZ wc) hy (backOf (W := W) hM hZ wc wz hf hl) (g := mkF m pc Ls st) rfl hsz (Steps.refl _) (a := a) (by rw [eT]; exact qa) qb hlen hst (by show 2 * 0 + _ ≤ _; rw [Nat.mul_zero, Nat.zero_add]; exact hW) (hb hby hd) (fun _ _ => ⟨rfl, eT, hc, hs⟩)
  dsimp only [Pt.U, Pt.locs, Pt.cells, Pt.slots] at X' l1 y1 z1 st1 hQ
  subst l1 y1 z1
  exact Gol.step (fun _ k => st1.trans k) (k T' v Lc X' hQ)
theorem Gol.callB (X : Stand p l e R s m args below meth c T locs cells slots) (hx : p.tables.exec = Jvm.exec) (hby : c.code = code) (hZ : Z.Warmed39 s.vm) {own : String} (hown : s.vm.findClass own = some m.cls) {index : Nat} {y : MethodName} {bytes : ByteArray} {maxL : Nat} {Q : Option Value → Heap → List Loc → Prop} (W : Nat) (argsL : List Value) {a : Addr} {ck cn : Nat} (wl : (Cond.methodLink own index y).before a0 Z = true) (wi : (Cond.instanceMethod y).before a0 Z = true) (wc : (Cond.code y bytes maxL none).before a0 Z = true) (hn : y.name = "<init>") (hy : y.cls ≠ "java/lang/invoke/MethodHandle" ∧ y.cls ≠ "java/lang/invoke/VarHandle")
    (hK : Back l R p e below s args y 3 W (fun A aa => aa = (.ref a :: argsL).toArray ∧ A.U.heap = h ∧ A.cells + ck ≤ R.cells ∧ A.slots + cn ≤ R.slots) (fun A _ v B => ∃ L, Q v B.U.heap L ∧ B.locs = A.locs ++ L ∧ B.cells = A.cells + ck ∧ B.slots = A.slots + cn)) (eT : T.heap = h) {st : List Value} (hsz : Ls.size = c.maxLocals) (hW : (rest.map fun v => v.category).sum ≤ W) (hc : cells + ck ≤ R.cells) (hs : slots + cn ≤ R.slots) (hlen : ∀ sig, parseMethodDescriptor y.desc = some sig → argsL.length = sig.parameters.length) (hst : st = argsL.reverse ++ .ref a :: rest) (hd : decode code pc = .ok (.invokespecial index, 3)) (hp : pc + 3 = pc')
    (k : ∀ (T' : State) (v : Option Value) (L : List Loc), Stand p l e R s m args below meth c T' (locs ++ L) (cells + ck) (slots + cn) → Q v T'.heap L → GolF p e below Fe Qf kc ks T' m pc' Ls (v.toList ++ rest)) : GolF p e below Fe Qf kc ks T m pc Ls st := by
  subst hp
  obtain ⟨v, _, ⟨T', L1, k1, n1⟩, -, X', ⟨Lc, hQ, l1, y1, z1⟩, st1⟩ := X.specialBack hx hn hown (mvT hZ wl) (mvT hZ wi) (mvT hZ wc) hy hK (g := mkF m pc Ls st) rfl hsz (Steps.refl _) (a := a) hlen hst (by show 2 * 0 + _ ≤ _; rw [Nat.mul_zero, Nat.zero_add]; exact hW) (hb hby hd) (fun _ _ => ⟨rfl, eT, hc, hs⟩)
  dsimp only [Pt.U, Pt.locs, Pt.cells, Pt.slots] at X' l1 y1 z1 st1 hQ
  subst l1 y1 z1
  exact Gol.step (fun _ k => st1.trans k) (k T' v Lc X' hQ)
theorem Gol.retN (X : Stand p l e R s m args below meth c T locs cells slots) (hx : p.tables.exec = Jvm.exec) (hby : c.code = code) {z : Int32} {t : FieldType} (hret : meth.sig.returnType = some t) (ht : t = .boolean ∨ t = .byte ∨ t = .char ∨ t = .short) (hlk : meth.locks = false) (hd : decode code pc = .ok (.ireturn, 1)) (eT : T.heap = h) (hq : Qf (some (.int (nar t z))) h locs) (hc : cells ≤ kc) (hs : slots ≤ ks) : GolF p e below (FrameEnd s) Qf kc ks T m pc Ls (.int z :: rest) :=
  Gol.fin X (fun h => by rw [hret] at h; cases h) hlk eT hq hc hs fun fs hr => Jvm.RoadKit.retN X hx hret ht (hb hby hd) hr
theorem Gol.retI (X : Stand p l e R s m args below meth c T locs cells slots) (hx : p.tables.exec = Jvm.exec) (hby : c.code = code) {z : Int32} (hret : meth.sig.returnType = some .int) (hlk : meth.locks = false) (hd : decode code pc = .ok (.ireturn, 1)) (eT : T.heap = h) (hq : Qf (some (.int z)) h locs) (hc : cells ≤ kc) (hs : slots ≤ ks) : GolF p e below (FrameEnd s) Qf kc ks T m pc Ls (.int z :: rest) :=
  Gol.fin X (fun h => by rw [hret] at h; cases h) hlk eT hq hc hs fun fs hr => Jvm.RoadKit.retOut X hx hret rfl (Or.inl ⟨rfl, Or.inl rfl, _, rfl⟩) (hb hby hd) hr
theorem Gol.retL (X : Stand p l e R s m args below meth c T locs cells slots) (hx : p.tables.exec = Jvm.exec) (hby : c.code = code) {z : Int64} (hret : meth.sig.returnType = some .long) (hlk : meth.locks = false) (hd : decode code pc = .ok (.lreturn, 1)) (eT : T.heap = h) (hq : Qf (some (.long z)) h locs) (hc : cells ≤ kc) (hs : slots ≤ ks) : GolF p e below (FrameEnd s) Qf kc ks T m pc Ls (.long z :: rest) :=
  Gol.fin X (fun h => by rw [hret] at h; cases h) hlk eT hq hc hs fun fs hr => Jvm.RoadKit.retOut X hx hret rfl (Or.inr (Or.inl ⟨rfl, rfl, _, rfl⟩)) (hb hby hd) hr
theorem Gol.retA (X : Stand p l e R s m args below meth c T locs cells slots) (hx : p.tables.exec = Jvm.exec) (hby : c.code = code) {w : Value} {t : FieldType} (hret : meth.sig.returnType = some t) (ht : t.isReference = true) (hw : w.isRef = true) (hlk : meth.locks = false) (hd : decode code pc = .ok (.areturn, 1)) (eT : T.heap = h) (hq : Qf (some w) h locs) (hc : cells ≤ kc) (hs : slots ≤ ks) : GolF p e below (FrameEnd s) Qf kc ks T m pc Ls (w :: rest) :=
  Gol.fin X (fun h => by rw [hret] at h; cases h) hlk eT hq hc hs fun fs hr => Jvm.RoadKit.retOut X hx hret (by rcases ref_cases hw with rfl | ⟨a, rfl⟩ <;> cases t <;> first | rfl | (simp [FieldType.isReference] at ht)) (Or.inr (Or.inr (Or.inr (Or.inr ⟨rfl, ht, hw⟩)))) (hb hby hd) hr
theorem Gol.ret0 (X : Stand p l e R s m args below meth c T locs cells slots) (hx : p.tables.exec = Jvm.exec) (hby : c.code = code) (hret : meth.sig.returnType = none) (hlk : meth.locks = false) (hd : decode code pc = .ok (.return_, 1)) (eT : T.heap = h) (hq : Qf none h locs) (hc : cells ≤ kc) (hs : slots ≤ ks) : GolF p e below (FrameEnd s) Qf kc ks T m pc Ls [] :=
  Gol.fin X (fun _ => rfl) hlk eT hq hc hs fun fs hr => X.returnOut hx hret (hb hby hd) hr
theorem Gol.retNW {vm₁ : Vm} (X : Stand p l e R (s.setVm vm₁) m args below meth c T locs cells slots) (hx : p.tables.exec = Jvm.exec) (hby : c.code = code) {n : Nat} (hS : s.Since vm₁ n) (hn : n ≤ h.size) {z : Int32} {t : FieldType} (hret : meth.sig.returnType = some t) (ht : t = .boolean ∨ t = .byte ∨ t = .char ∨ t = .short) (hlk : meth.locks = false) (hd : decode code pc = .ok (.ireturn, 1)) (eT : T.heap = h) (hq : Qf (some (.int (nar t z))) h locs) (hc : cells ≤ kc) (hs : slots ≤ ks) : GolF p e below (ReturnedEndW s) Qf kc ks T m pc Ls (.int z :: rest) :=
  Gol.finW X hS (eT ▸ hn) (fun h => by rw [hret] at h; cases h) hlk eT hq hc hs fun fs hr => Jvm.RoadKit.retN X hx hret ht (hb hby hd) hr
theorem Gol.ldcStr {vm₁ : Vm} (X : Stand p l e R (s.setVm vm₁) m args below meth c T locs cells slots) (hx : p.tables.exec = Jvm.exec) (hby : c.code = code) {own text : String} {index : Nat} (hZ : Z.Warmed39 vm₁) (hown : vm₁.findClass own = some m.cls) (w : (Cond.stringLink own index text).before a0 Z = true) (wS : ∀ a ∈ Bundle.stringAtoms, a.before a0 Z = true) (eT : T.heap = h) {k0 : Nat} (hS : s.Since vm₁ k0) (hk : k0 ≤ h.size) (n : Nat) (hd : decode code pc = .ok (.ldc index, 2)) (hp : pc + 2 = pc') (hn : 4 * text.toList.length ≤ n) (hbig : n ≤ 536870912) (hc : cells + 2 ≤ R.cells) (hl : slots + (n + 4) ≤ R.slots)
    (k : ∀ (a : Addr) (T' : State) (h' : Heap) (k1 : Nat), Stand p l e R (s.setVm T'.vm) m args below meth c T' locs (cells + 2) (slots + (n + 4)) → T'.heap = h' → Ext h h' → s.Since T'.vm k1 → k1 ≤ h'.size → Z.Warmed39 (s.setVm T'.vm).vm → (s.setVm T'.vm).vm.findClass own = some m.cls → GolF p e below Fe Qf kc ks T' m pc' Ls (.ref a :: rest)) : GolF p e below Fe Qf kc ks T m pc Ls rest := by
  subst hp
  obtain ⟨a, T', h', k1, X', e', E, S', K', Z', O', st⟩ := ldcS X hx hZ hown w wS eT hS hk (g := mkF m pc Ls rest) rfl (hb hby hd) (n := n) hn hbig hc hl
  exact Gol.step st (k a T' h' k1 X' e' E S' K' Z' O')
theorem nar_ite {P : Prop} [Decidable P] {a b : Int32} (ha : nar .boolean a = a) (hb : nar .boolean b = b) : nar .boolean (if P then a else b) = (if P then a else b) := by
  split <;> assumption
theorem tltL {x y : Int64} (h : x < y) : ifCond.holds .lt (XT.cmpL x y) = true ∧ ifCond.holds .ge (XT.cmpL x y) = false := by
  have h1 : ¬ y < x := fun q => Int64.lt_irrefl (Int64.lt_trans h q)
  have h2 : ¬ x = y := fun q => Int64.lt_irrefl (q ▸ h)
  simp [XT.cmpL, h1, h2, ifCond.holds]
theorem fltL {x y : Int64} (h : ¬ x < y) : ifCond.holds .lt (XT.cmpL x y) = false ∧ ifCond.holds .ge (XT.cmpL x y) = true := by
  by_cases h1 : y < x
  · simp [XT.cmpL, h1, ifCond.holds]
  · have h2 : x = y := Int64.le_antisymm (Int64.not_lt.mp h1) (Int64.not_lt.mp h)
    simp [XT.cmpL, h2, ifCond.holds, Int64.lt_irrefl]
theorem tgtL {x y : Int64} (h : y < x) : ifCond.holds .gt (XT.cmpL x y) = true ∧ ifCond.holds .le (XT.cmpL x y) = false := by
  simp [XT.cmpL, h, ifCond.holds]
theorem fgtL {x y : Int64} (h : ¬ y < x) : ifCond.holds .gt (XT.cmpL x y) = false ∧ ifCond.holds .le (XT.cmpL x y) = true := by
  by_cases h2 : x = y <;> simp [XT.cmpL, h, h2, ifCond.holds, Int64.lt_irrefl]
theorem teqL {x y : Int64} (h : x = y) : ifCond.holds .eq (XT.cmpL x y) = true ∧ ifCond.holds .ne (XT.cmpL x y) = false := by
  subst h; simp [XT.cmpL, Int64.lt_irrefl, ifCond.holds]
theorem feqL {x y : Int64} (h : ¬ x = y) : ifCond.holds .eq (XT.cmpL x y) = false ∧ ifCond.holds .ne (XT.cmpL x y) = true := by
  by_cases h1 : y < x <;> simp [XT.cmpL, h, h1, ifCond.holds]
end Own
end Jvm.RoadKit
namespace Jvm.Pilot.@@N@@
open Jvm Jvm.ClassFile Sem Op Lib Jvm.Free Jvm.Stand Jvm.LawKit Jvm.RoadKit Bundle Jvm.Pilot.@@N@@.Jvm.D
abbrev Ob (Z : State) (h : Heap) (a : Addr) (v0 : Value) (v1 : Value) (v2 : Value) (v3 : Value) : Prop := Exa Z h a "com/example/ballast/ballast/runtime/Outbox" ∧ Fld Z h a "com/example/ballast/ballast/runtime/Outbox" "lastSent" "J" v0 ∧ Fld Z h a "com/example/ballast/ballast/runtime/Outbox" "awaitingFlush" "Z" v1 ∧ Fld Z h a "com/example/ballast/ballast/runtime/Outbox" "held" "Ljava/util/List;" v2 ∧ Fld Z h a "com/example/ballast/ballast/runtime/Outbox" "deferredMove" "I" v3
abbrev Al (Z : State) (h : Heap) (a : Addr) (v0 : Value) (v1 : Value) (v2 : Value) : Prop := Exa Z h a "java/util/ArrayList" ∧ Fld Z h a "java/util/AbstractList" "modCount" "I" v0 ∧ Fld Z h a "java/util/ArrayList" "elementData" "[Ljava/lang/Object;" v1 ∧ Fld Z h a "java/util/ArrayList" "size" "I" v2
abbrev He (Z : State) (h : Heap) (a : Addr) (v0 : Value) (v1 : Value) : Prop := Exa Z h a "com/example/ballast/ballast/runtime/Outbox$Held" ∧ Fld Z h a "com/example/ballast/ballast/runtime/Outbox$Held" "receiver" "Lcom/example/ballast/ballast/runtime/ActorId;" v0 ∧ Fld Z h a "com/example/ballast/ballast/runtime/Outbox$Held" "send" "Ljava/util/function/IntConsumer;" v1
theorem own_n32 {n : Nat} (hn : n ≤ 100) : (Int32.ofNat n).toNatClampNeg = n := by
  rw [Int32.toNatClampNeg, Int32.toInt_ofNat_of_lt (by omega)]; rfl
theorem own_int {n : Nat} (hn : n ≤ 100) : (Int32.ofNat n).toInt = n := Int32.toInt_ofNat_of_lt (by omega)
theorem own_one (i : Nat) : Int32.ofNat i + (1 : Int32) = Int32.ofNat (i + 1) := (Int32.ofNat_add i 1).symm
theorem own_in10 {i : Nat} (h : i < 10) : ¬ Int32.ofNat i < 0 ∧ Int32.ofNat i < 10 := by
  rw [Int32.lt_iff_toInt_lt, Int32.lt_iff_toInt_lt, own_int (by omega), show (0 : Int32).toInt = 0 from rfl, show (10 : Int32).toInt = 10 from rfl]; omega
theorem own_ne10 {i : Nat} (h : i < 10) : ¬ Int32.ofNat i = (10 : Int32) := fun q => by
  have := congrArg Int32.toInt q
  rw [own_int (by omega), show (10 : Int32).toInt = 10 from rfl] at this; omega
theorem d1_0 : decode prog_120_method_1_code 0 = .ok (.aload_n 0, 1) := by decide +kernel
theorem d1_1 : decode prog_120_method_1_code 1 = .ok (.invokespecial 1, 3) := by decide +kernel
theorem d1_4 : decode prog_120_method_1_code 4 = .ok (.aload_n 0, 1) := by decide +kernel
theorem d1_5 : decode prog_120_method_1_code 5 = .ok (.ldc2_w 7, 3) := by decide +kernel
theorem d1_8 : decode prog_120_method_1_code 8 = .ok (.putfield 9, 3) := by decide +kernel
theorem d1_11 : decode prog_120_method_1_code 11 = .ok (.aload_n 0, 1) := by decide +kernel
theorem d1_12 : decode prog_120_method_1_code 12 = .ok (.iconst (-1), 1) := by decide +kernel
theorem d1_13 : decode prog_120_method_1_code 13 = .ok (.putfield 15, 3) := by decide +kernel
theorem d1_16 : decode prog_120_method_1_code 16 = .ok (.return_, 1) := by decide +kernel
theorem pd_0 : parseMethodDescriptor "()V" = some ⟨[], none⟩ := by decide +kernel
theorem pd_1 : parseMethodDescriptor "(II)I" = some ⟨[.int, .int], some .int⟩ := by decide +kernel
theorem pd_2 : parseMethodDescriptor "(I)[Ljava/lang/Object;" = some ⟨[.int], some (.array (.object "java/lang/Object"))⟩ := by decide +kernel
theorem pd_3 : parseMethodDescriptor "()[Ljava/lang/Object;" = some ⟨[], some (.array (.object "java/lang/Object"))⟩ := by decide +kernel
theorem pd_4 : parseMethodDescriptor "(Ljava/lang/Object;[Ljava/lang/Object;I)V" = some ⟨[(.object "java/lang/Object"), (.array (.object "java/lang/Object")), .int], none⟩ := by decide +kernel
theorem pd_5 : parseMethodDescriptor "(Lcom/example/ballast/ballast/runtime/ActorId;Ljava/util/function/IntConsumer;)V" = some ⟨[(.object "com/example/ballast/ballast/runtime/ActorId"), (.object "java/util/function/IntConsumer")], none⟩ := by decide +kernel
theorem pd_6 : parseMethodDescriptor "(Ljava/lang/Object;)Z" = some ⟨[(.object "java/lang/Object")], some .boolean⟩ := by decide +kernel
theorem pd_7 : parseMethodDescriptor "()Ljava/util/List;" = some ⟨[], some (.object "java/util/List")⟩ := by decide +kernel
theorem pd_8 : parseMethodDescriptor "(J)V" = some ⟨[.long], none⟩ := by decide +kernel
theorem pd_9 : parseMethodDescriptor "(I)V" = some ⟨[.int], none⟩ := by decide +kernel
theorem pd_10 : parseMethodDescriptor "()I" = some ⟨[], some .int⟩ := by decide +kernel
theorem pd_11 : parseMethodDescriptor "()Z" = some ⟨[], some .boolean⟩ := by decide +kernel
theorem pd_12 : parseMethodDescriptor "(Lcom/example/ballast/ballast/runtime/Outbox;ZIJ)Z" = some ⟨[(.object "com/example/ballast/ballast/runtime/Outbox"), .boolean, .int, .long], some .boolean⟩ := by decide +kernel
theorem pn_1 : plainName "com/example/ballast/ballast/runtime/Outbox" = true := by first | (simp [plainName, overriddenIn]; done) | decide +kernel
theorem ef_1 (m : MethodId) (r0 : Addr) : entryFrame m #[(.ref r0)] 1 = mkF m 0 #[.val (.ref r0)] [] := by first | (simp [entryFrame, mkF, argsToLocals, Value.category]; done) | rfl
abbrev QInit (Z : State) (r0 : Addr) (h0 : Heap) (n0 : Nat) (v : Option Value) (h : Heap) (L : List Loc) : Prop := v = none ∧ Fr n0 L ∧ Keep h0 h [r0] ∧ Ob Z h r0 (.long (-1 : Int64)) (.int (0 : Int32)) .null (.int (-1 : Int32))
set_option maxRecDepth 65536 in
set_option maxHeartbeats 40000000 in
theorem rmInit (l : Launch) (Z : State) (a0 : Array Value) (hw : ∀ d ∈ tables_1, d.before a0 Z = true) (ws : List Jvm.Cond) (r0 : Addr) (h0 : Heap) (n0 : Nat) (Z0 : n0 ≤ h0.size) (O0 : Ob Z h0 r0 (.long (0 : Int64)) (.int (0 : Int32)) .null (.int (0 : Int32))) (g_r0 : n0 ≤ r0) :
    MetFree l (⟨"com/example/ballast/ballast/runtime/Outbox", "<init>", "()V"⟩ : MethodName) (head1 (Jvm.Cond.code (⟨"com/example/ballast/ballast/runtime/Outbox", "<init>", "()V"⟩ : MethodName) prog_120_method_1_code 1 none :: ws) ({ frames := 1, cells := 0, slots := 0, locals := 12 } : Room)) (fun a U => a = #[(.ref r0)] ∧ Z.Warmed39 U.vm ∧ U.heap = h0) (fun _ _ _ _ _ => True) (fun _ U o U' => ∃ v L, o = .returned v ∧ QInit Z r0 h0 n0 v U'.heap L ∧ FrameEnd U o U' L 0 0) := by
  refine MetFree.of_bodySF (plainFor_of_name pn_1) hisR ?_
  intro p ev s m args below meth c s₁ Bd hml0 hP hK
  obtain ⟨rfl, hZ, hh⟩ := hP
  have hx := Bd.exec
  have hby := Bd.bytes
  have hml : c.maxLocals = 1 := hml0
  have hown : s.vm.findClass "com/example/ballast/ballast/runtime/Outbox" = some m.cls := findClass_of_methodNamed Bd.named
  have hnm := (name_of_methodNamed Bd.named Bd.method).1
  have X0 : Stand p l ev ({ frames := 1, cells := 0, slots := 0, locals := 12 } : Room) s m #[(.ref r0)] below meth c s₁ [] 0 0 := Stand.of_body Bd
  have eh0 : s₁.heap = h0 := by rw [← hh, Bd.state]; rfl
  have N0 := Fr.nil n0
  have Zs := Z0
  show Gol p ev below (FrameEnd s) (QInit Z r0 h0 n0) 0 0 (s₁.setTop (entryFrame m #[(.ref r0)] 1))
  rw [ef_1]
  obtain ⟨E_r0, F_r0_lastSent, F_r0_awaitingFlush, F_r0_held, F_r0_deferredMove⟩ := O0
  have K := Keep.refl h0 [r0]
  show GolF _ _ _ _ _ _ _ s₁ m 0 #[.val (.ref r0)] []
  refine Gol.aloadN X0 hx hby d1_0 (pc' := 1) rfl rfl rfl ?_
  refine Gol.initO X0 hx hby hZ hown (hw _ (List.mem_of_getElem? (i := 6) rfl)) (hw _ (List.mem_of_getElem? (i := 7) rfl)) (hw _ (List.mem_of_getElem? (i := 8) rfl)) eh0 0 d1_1 (pc' := 4) rfl (by rw [hml]; rfl) (by decide) (Nat.le_of_eq rfl) (by decide) ?_
  intro T1 X1 e1
  refine Gol.aloadN X1 hx hby d1_4 (pc' := 5) rfl rfl rfl ?_
  refine Gol.ldc2Long X1 hx hby hZ hown d1_5 (pc' := 8) rfl (hw _ (List.mem_of_getElem? (i := 9) rfl)) ?_
  refine Gol.putF X1 hx hby hZ hown (host := "") (Or.inl (hw _ (List.mem_of_getElem? (i := 10) rfl))) Via.refl e1 F_r0_lastSent E_r0 (Or.inl (hw _ (List.mem_of_getElem? (i := 11) rfl))) (hw _ (List.mem_of_getElem? (i := 1) rfl)) (ty := .long) (by decide) rfl rfl d1_8 (pc' := 11) rfl ?_
  intro T2 h2 X2 e2 W2
  have E_r0 := E_r0.wr W2
  have F_r0_lastSent := F_r0_lastSent.same W2
  have F_r0_awaitingFlush := F_r0_awaitingFlush.other W2 (Or.inr (slot_ne (Or.inl (hw _ (List.mem_of_getElem? (i := 80) rfl))) (Or.inl (hw _ (List.mem_of_getElem? (i := 11) rfl))) (by decide) (t := .boolean) (t' := .long) (by decide) (by decide)))
  have F_r0_held := F_r0_held.other W2 (Or.inr (slot_ne (Or.inl (hw _ (List.mem_of_getElem? (i := 20) rfl))) (Or.inl (hw _ (List.mem_of_getElem? (i := 11) rfl))) (by decide) (t := (.object "java/util/List")) (t' := .long) (by decide) (by decide)))
  have F_r0_deferredMove := F_r0_deferredMove.other W2 (Or.inr (slot_ne (Or.inl (hw _ (List.mem_of_getElem? (i := 13) rfl))) (Or.inl (hw _ (List.mem_of_getElem? (i := 11) rfl))) (by decide) (t := .int) (t' := .long) (by decide) (by decide)))
  have K := K.wr W2 (Or.inl (List.mem_of_getElem? (i := 0) rfl))
  have Zs := Nat.le_trans Zs (Keep.of_wr W2).1
  have N2 := Fr.snoc X2 N0 g_r0
  refine Gol.aloadN X2 hx hby d1_11 (pc' := 12) rfl rfl rfl ?_
  refine Gol.iconst X2 hx hby d1_12 (pc' := 13) rfl (z := (-1 : Int32)) rfl ?_
  refine Gol.putF X2 hx hby hZ hown (host := "") (Or.inl (hw _ (List.mem_of_getElem? (i := 12) rfl))) Via.refl e2 F_r0_deferredMove E_r0 (Or.inl (hw _ (List.mem_of_getElem? (i := 13) rfl))) (hw _ (List.mem_of_getElem? (i := 1) rfl)) (ty := .int) (by decide) rfl rfl d1_13 (pc' := 16) rfl ?_
  intro T3 h3 X3 e3 W3
  have E_r0 := E_r0.wr W3
  have F_r0_lastSent := F_r0_lastSent.other W3 (Or.inr (slot_ne (Or.inl (hw _ (List.mem_of_getElem? (i := 11) rfl))) (Or.inl (hw _ (List.mem_of_getElem? (i := 13) rfl))) (by decide) (t := .long) (t' := .int) (by decide) (by decide)))
  have F_r0_awaitingFlush := F_r0_awaitingFlush.other W3 (Or.inr (slot_ne (Or.inl (hw _ (List.mem_of_getElem? (i := 80) rfl))) (Or.inl (hw _ (List.mem_of_getElem? (i := 13) rfl))) (by decide) (t := .boolean) (t' := .int) (by decide) (by decide)))
  have F_r0_held := F_r0_held.other W3 (Or.inr (slot_ne (Or.inl (hw _ (List.mem_of_getElem? (i := 20) rfl))) (Or.inl (hw _ (List.mem_of_getElem? (i := 13) rfl))) (by decide) (t := (.object "java/util/List")) (t' := .int) (by decide) (by decide)))
  have F_r0_deferredMove := F_r0_deferredMove.same W3
  have K := K.wr W3 (Or.inl (List.mem_of_getElem? (i := 0) rfl))
  have Zs := Nat.le_trans Zs (Keep.of_wr W3).1
  have N3 := Fr.snoc X3 N2 g_r0
  exact Gol.ret0 X3 hx hby Bd.returns Bd.notSynchronized d1_16 e3 ⟨rfl, N3, K, ⟨E_r0, F_r0_lastSent, F_r0_awaitingFlush, F_r0_held, F_r0_deferredMove⟩⟩ (by decide) (by decide)
theorem d10_0 : decode prog_120_method_2_code 0 = .ok (.aload_n 0, 1) := by decide +kernel
theorem d10_1 : decode prog_120_method_2_code 1 = .ok (.lload_n 1, 1) := by decide +kernel
theorem d10_2 : decode prog_120_method_2_code 2 = .ok (.putfield 9, 3) := by decide +kernel
theorem d10_5 : decode prog_120_method_2_code 5 = .ok (.return_, 1) := by decide +kernel
theorem pn_10 : plainName "com/example/ballast/ballast/runtime/Outbox" = true := by first | (simp [plainName, overriddenIn]; done) | decide +kernel
theorem ef_10 (m : MethodId) (r0 : Addr) (q1 : Int64) : entryFrame m #[(.ref r0), (.long q1)] 3 = mkF m 0 #[.val (.ref r0), .val (.long q1), .second] [] := by first | (simp [entryFrame, mkF, argsToLocals, Value.category]; done) | rfl
abbrev QSent (Z : State) (r0 : Addr) (q1 : Int64) (v0 : Value) (v1 : Value) (v2 : Value) (v3 : Value) (h0 : Heap) (n0 : Nat) (v : Option Value) (h : Heap) (L : List Loc) : Prop := v = none ∧ Fr n0 L ∧ Keep h0 h [r0] ∧ Ob Z h r0 (.long q1) v1 v2 v3
set_option maxRecDepth 65536 in
set_option maxHeartbeats 40000000 in
theorem rmSent (l : Launch) (Z : State) (a0 : Array Value) (hw : ∀ d ∈ tables_1, d.before a0 Z = true) (ws : List Jvm.Cond) (r0 : Addr) (q1 : Int64) (v0 : Value) (v1 : Value) (v2 : Value) (v3 : Value) (h0 : Heap) (n0 : Nat) (Z0 : n0 ≤ h0.size) (O0 : Ob Z h0 r0 v0 v1 v2 v3) (g_r0 : n0 ≤ r0) :
    MetFree l (⟨"com/example/ballast/ballast/runtime/Outbox", "sent", "(J)V"⟩ : MethodName) (head1 (Jvm.Cond.code (⟨"com/example/ballast/ballast/runtime/Outbox", "sent", "(J)V"⟩ : MethodName) prog_120_method_2_code 3 none :: ws) ({ frames := 0, cells := 0, slots := 0, locals := 0 } : Room)) (fun a U => a = #[(.ref r0), (.long q1)] ∧ Z.Warmed39 U.vm ∧ U.heap = h0) (fun _ _ _ _ _ => True) (fun _ U o U' => ∃ v L, o = .returned v ∧ QSent Z r0 q1 v0 v1 v2 v3 h0 n0 v U'.heap L ∧ FrameEnd U o U' L 0 0) := by
  refine MetFree.of_bodySF (plainFor_of_name pn_10) hisR ?_
  intro p ev s m args below meth c s₁ Bd hml0 hP hK
  obtain ⟨rfl, hZ, hh⟩ := hP
  have hx := Bd.exec
  have hby := Bd.bytes
  have hml : c.maxLocals = 3 := hml0
  have hown : s.vm.findClass "com/example/ballast/ballast/runtime/Outbox" = some m.cls := findClass_of_methodNamed Bd.named
  have hnm := (name_of_methodNamed Bd.named Bd.method).1
  have X0 : Stand p l ev ({ frames := 0, cells := 0, slots := 0, locals := 0 } : Room) s m #[(.ref r0), (.long q1)] below meth c s₁ [] 0 0 := Stand.of_body Bd
  have eh0 : s₁.heap = h0 := by rw [← hh, Bd.state]; rfl
  have N0 := Fr.nil n0
  have Zs := Z0
  show Gol p ev below (FrameEnd s) (QSent Z r0 q1 v0 v1 v2 v3 h0 n0) 0 0 (s₁.setTop (entryFrame m #[(.ref r0), (.long q1)] 3))
  rw [ef_10]
  obtain ⟨E_r0, F_r0_lastSent, F_r0_awaitingFlush, F_r0_held, F_r0_deferredMove⟩ := O0
  have K := Keep.refl h0 [r0]
  show GolF _ _ _ _ _ _ _ s₁ m 0 #[.val (.ref r0), .val (.long q1), .second] []
  refine Gol.aloadN X0 hx hby d10_0 (pc' := 1) rfl rfl rfl ?_
  refine Gol.lloadN X0 hx hby d10_1 (pc' := 2) rfl rfl ?_
  refine Gol.putF X0 hx hby hZ hown (host := "") (Or.inl (hw _ (List.mem_of_getElem? (i := 10) rfl))) Via.refl eh0 F_r0_lastSent E_r0 (Or.inl (hw _ (List.mem_of_getElem? (i := 11) rfl))) (hw _ (List.mem_of_getElem? (i := 1) rfl)) (ty := .long) (by decide) rfl rfl d10_2 (pc' := 5) rfl ?_
  intro T1 h1 X1 e1 W1
  have E_r0 := E_r0.wr W1
  have F_r0_lastSent := F_r0_lastSent.same W1
  have F_r0_awaitingFlush := F_r0_awaitingFlush.other W1 (Or.inr (slot_ne (Or.inl (hw _ (List.mem_of_getElem? (i := 80) rfl))) (Or.inl (hw _ (List.mem_of_getElem? (i := 11) rfl))) (by decide) (t := .boolean) (t' := .long) (by decide) (by decide)))
  have F_r0_held := F_r0_held.other W1 (Or.inr (slot_ne (Or.inl (hw _ (List.mem_of_getElem? (i := 20) rfl))) (Or.inl (hw _ (List.mem_of_getElem? (i := 11) rfl))) (by decide) (t := (.object "java/util/List")) (t' := .long) (by decide) (by decide)))
  have F_r0_deferredMove := F_r0_deferredMove.other W1 (Or.inr (slot_ne (Or.inl (hw _ (List.mem_of_getElem? (i := 13) rfl))) (Or.inl (hw _ (List.mem_of_getElem? (i := 11) rfl))) (by decide) (t := .int) (t' := .long) (by decide) (by decide)))
  have K := K.wr W1 (Or.inl (List.mem_of_getElem? (i := 0) rfl))
  have Zs := Nat.le_trans Zs (Keep.of_wr W1).1
  have N1 := Fr.snoc X1 N0 g_r0
  exact Gol.ret0 X1 hx hby Bd.returns Bd.notSynchronized d10_5 e1 ⟨rfl, N1, K, ⟨E_r0, F_r0_lastSent, F_r0_awaitingFlush, F_r0_held, F_r0_deferredMove⟩⟩ (by decide) (by decide)
theorem d9_0 : decode prog_120_method_10_code 0 = .ok (.aload_n 0, 1) := by decide +kernel
theorem d9_1 : decode prog_120_method_10_code 1 = .ok (.iload_n 1, 1) := by decide +kernel
theorem d9_2 : decode prog_120_method_10_code 2 = .ok (.putfield 15, 3) := by decide +kernel
theorem d9_5 : decode prog_120_method_10_code 5 = .ok (.return_, 1) := by decide +kernel
theorem pn_9 : plainName "com/example/ballast/ballast/runtime/Outbox" = true := by first | (simp [plainName, overriddenIn]; done) | decide +kernel
theorem ef_9 (m : MethodId) (r0 : Addr) (p1 : Int32) : entryFrame m #[(.ref r0), (.int p1)] 2 = mkF m 0 #[.val (.ref r0), .val (.int p1)] [] := by first | (simp [entryFrame, mkF, argsToLocals, Value.category]; done) | rfl
abbrev QDefer (Z : State) (r0 : Addr) (p1 : Int32) (v0 : Value) (v1 : Value) (v2 : Value) (v3 : Value) (h0 : Heap) (n0 : Nat) (v : Option Value) (h : Heap) (L : List Loc) : Prop := v = none ∧ Fr n0 L ∧ Keep h0 h [r0] ∧ Ob Z h r0 v0 v1 v2 (.int p1)
set_option maxRecDepth 65536 in
set_option maxHeartbeats 40000000 in
theorem rmDefer (l : Launch) (Z : State) (a0 : Array Value) (hw : ∀ d ∈ tables_1, d.before a0 Z = true) (ws : List Jvm.Cond) (r0 : Addr) (p1 : Int32) (v0 : Value) (v1 : Value) (v2 : Value) (v3 : Value) (h0 : Heap) (n0 : Nat) (Z0 : n0 ≤ h0.size) (O0 : Ob Z h0 r0 v0 v1 v2 v3) (g_r0 : n0 ≤ r0) :
    MetFree l (⟨"com/example/ballast/ballast/runtime/Outbox", "deferMove", "(I)V"⟩ : MethodName) (head1 (Jvm.Cond.code (⟨"com/example/ballast/ballast/runtime/Outbox", "deferMove", "(I)V"⟩ : MethodName) prog_120_method_10_code 2 none :: ws) ({ frames := 0, cells := 0, slots := 0, locals := 0 } : Room)) (fun a U => a = #[(.ref r0), (.int p1)] ∧ Z.Warmed39 U.vm ∧ U.heap = h0) (fun _ _ _ _ _ => True) (fun _ U o U' => ∃ v L, o = .returned v ∧ QDefer Z r0 p1 v0 v1 v2 v3 h0 n0 v U'.heap L ∧ FrameEnd U o U' L 0 0) := by
  refine MetFree.of_bodySF (plainFor_of_name pn_9) hisR ?_
  intro p ev s m args below meth c s₁ Bd hml0 hP hK
  obtain ⟨rfl, hZ, hh⟩ := hP
  have hx := Bd.exec
  have hby := Bd.bytes
  have hml : c.maxLocals = 2 := hml0
  have hown : s.vm.findClass "com/example/ballast/ballast/runtime/Outbox" = some m.cls := findClass_of_methodNamed Bd.named
  have hnm := (name_of_methodNamed Bd.named Bd.method).1
  have X0 : Stand p l ev ({ frames := 0, cells := 0, slots := 0, locals := 0 } : Room) s m #[(.ref r0), (.int p1)] below meth c s₁ [] 0 0 := Stand.of_body Bd
  have eh0 : s₁.heap = h0 := by rw [← hh, Bd.state]; rfl
  have N0 := Fr.nil n0
  have Zs := Z0
  show Gol p ev below (FrameEnd s) (QDefer Z r0 p1 v0 v1 v2 v3 h0 n0) 0 0 (s₁.setTop (entryFrame m #[(.ref r0), (.int p1)] 2))
  rw [ef_9]
  obtain ⟨E_r0, F_r0_lastSent, F_r0_awaitingFlush, F_r0_held, F_r0_deferredMove⟩ := O0
  have K := Keep.refl h0 [r0]
  show GolF _ _ _ _ _ _ _ s₁ m 0 #[.val (.ref r0), .val (.int p1)] []
  refine Gol.aloadN X0 hx hby d9_0 (pc' := 1) rfl rfl rfl ?_
  refine Gol.iloadN X0 hx hby d9_1 (pc' := 2) rfl rfl ?_
  refine Gol.putF X0 hx hby hZ hown (host := "") (Or.inl (hw _ (List.mem_of_getElem? (i := 12) rfl))) Via.refl eh0 F_r0_deferredMove E_r0 (Or.inl (hw _ (List.mem_of_getElem? (i := 13) rfl))) (hw _ (List.mem_of_getElem? (i := 1) rfl)) (ty := .int) (by decide) rfl rfl d9_2 (pc' := 5) rfl ?_
  intro T1 h1 X1 e1 W1
  have E_r0 := E_r0.wr W1
  have F_r0_lastSent := F_r0_lastSent.other W1 (Or.inr (slot_ne (Or.inl (hw _ (List.mem_of_getElem? (i := 11) rfl))) (Or.inl (hw _ (List.mem_of_getElem? (i := 13) rfl))) (by decide) (t := .long) (t' := .int) (by decide) (by decide)))
  have F_r0_awaitingFlush := F_r0_awaitingFlush.other W1 (Or.inr (slot_ne (Or.inl (hw _ (List.mem_of_getElem? (i := 80) rfl))) (Or.inl (hw _ (List.mem_of_getElem? (i := 13) rfl))) (by decide) (t := .boolean) (t' := .int) (by decide) (by decide)))
  have F_r0_held := F_r0_held.other W1 (Or.inr (slot_ne (Or.inl (hw _ (List.mem_of_getElem? (i := 20) rfl))) (Or.inl (hw _ (List.mem_of_getElem? (i := 13) rfl))) (by decide) (t := (.object "java/util/List")) (t' := .int) (by decide) (by decide)))
  have F_r0_deferredMove := F_r0_deferredMove.same W1
  have K := K.wr W1 (Or.inl (List.mem_of_getElem? (i := 0) rfl))
  have Zs := Nat.le_trans Zs (Keep.of_wr W1).1
  have N1 := Fr.snoc X1 N0 g_r0
  exact Gol.ret0 X1 hx hby Bd.returns Bd.notSynchronized d9_5 e1 ⟨rfl, N1, K, ⟨E_r0, F_r0_lastSent, F_r0_awaitingFlush, F_r0_held, F_r0_deferredMove⟩⟩ (by decide) (by decide)
theorem d11_0 : decode prog_120_method_11_code 0 = .ok (.aload_n 0, 1) := by decide +kernel
theorem d11_1 : decode prog_120_method_11_code 1 = .ok (.getfield 15, 3) := by decide +kernel
theorem d11_4 : decode prog_120_method_11_code 4 = .ok (.istore_n 1, 1) := by decide +kernel
theorem d11_5 : decode prog_120_method_11_code 5 = .ok (.aload_n 0, 1) := by decide +kernel
theorem d11_6 : decode prog_120_method_11_code 6 = .ok (.iconst (-1), 1) := by decide +kernel
theorem d11_7 : decode prog_120_method_11_code 7 = .ok (.putfield 15, 3) := by decide +kernel
theorem d11_10 : decode prog_120_method_11_code 10 = .ok (.iload_n 1, 1) := by decide +kernel
theorem d11_11 : decode prog_120_method_11_code 11 = .ok (.ireturn, 1) := by decide +kernel
theorem pn_11 : plainName "com/example/ballast/ballast/runtime/Outbox" = true := by first | (simp [plainName, overriddenIn]; done) | decide +kernel
theorem ef_11 (m : MethodId) (r0 : Addr) : entryFrame m #[(.ref r0)] 2 = mkF m 0 #[.val (.ref r0), .unset] [] := by first | (simp [entryFrame, mkF, argsToLocals, Value.category]; done) | rfl
abbrev QTake (Z : State) (r0 : Addr) (v0 : Value) (v1 : Value) (v2 : Value) (dm : Int32) (h0 : Heap) (n0 : Nat) (v : Option Value) (h : Heap) (L : List Loc) : Prop := v = some (.int dm) ∧ Fr n0 L ∧ Keep h0 h [r0] ∧ Ob Z h r0 v0 v1 v2 (.int (-1 : Int32))
set_option maxRecDepth 65536 in
set_option maxHeartbeats 40000000 in
theorem rmTake (l : Launch) (Z : State) (a0 : Array Value) (hw : ∀ d ∈ tables_1, d.before a0 Z = true) (ws : List Jvm.Cond) (r0 : Addr) (v0 : Value) (v1 : Value) (v2 : Value) (dm : Int32) (h0 : Heap) (n0 : Nat) (Z0 : n0 ≤ h0.size) (O0 : Ob Z h0 r0 v0 v1 v2 (.int dm)) (g_r0 : n0 ≤ r0) :
    MetFree l (⟨"com/example/ballast/ballast/runtime/Outbox", "takeDeferredMove", "()I"⟩ : MethodName) (head1 (Jvm.Cond.code (⟨"com/example/ballast/ballast/runtime/Outbox", "takeDeferredMove", "()I"⟩ : MethodName) prog_120_method_11_code 2 (some .int) :: ws) ({ frames := 0, cells := 0, slots := 0, locals := 0 } : Room)) (fun a U => a = #[(.ref r0)] ∧ Z.Warmed39 U.vm ∧ U.heap = h0) (fun _ _ _ _ _ => True) (fun _ U o U' => ∃ v L, o = .returned v ∧ QTake Z r0 v0 v1 v2 dm h0 n0 v U'.heap L ∧ FrameEnd U o U' L 0 0) := by
  refine MetFree.of_bodySF (plainFor_of_name pn_11) hisR ?_
  intro p ev s m args below meth c s₁ Bd hml0 hP hK
  obtain ⟨rfl, hZ, hh⟩ := hP
  have hx := Bd.exec
  have hby := Bd.bytes
  have hml : c.maxLocals = 2 := hml0
  have hown : s.vm.findClass "com/example/ballast/ballast/runtime/Outbox" = some m.cls := findClass_of_methodNamed Bd.named
  have hnm := (name_of_methodNamed Bd.named Bd.method).1
  have X0 : Stand p l ev ({ frames := 0, cells := 0, slots := 0, locals := 0 } : Room) s m #[(.ref r0)] below meth c s₁ [] 0 0 := Stand.of_body Bd
  have eh0 : s₁.heap = h0 := by rw [← hh, Bd.state]; rfl
  have N0 := Fr.nil n0
  have Zs := Z0
  show Gol p ev below (FrameEnd s) (QTake Z r0 v0 v1 v2 dm h0 n0) 0 0 (s₁.setTop (entryFrame m #[(.ref r0)] 2))
  rw [ef_11]
  obtain ⟨E_r0, F_r0_lastSent, F_r0_awaitingFlush, F_r0_held, F_r0_deferredMove⟩ := O0
  have K := Keep.refl h0 [r0]
  show GolF _ _ _ _ _ _ _ s₁ m 0 #[.val (.ref r0), .unset] []
  refine Gol.aloadN X0 hx hby d11_0 (pc' := 1) rfl rfl rfl ?_
  refine Gol.getF X0 hx hby hZ hown (host := "") (Or.inl (hw _ (List.mem_of_getElem? (i := 12) rfl))) Via.refl eh0 F_r0_deferredMove d11_1 (pc' := 4) rfl ?_
  intro T1 X1 e1
  refine Gol.istoreN X1 hx hby d11_4 (pc' := 5) rfl (l' := #[.val (.ref r0), .val (.int dm)]) rfl ?_
  refine Gol.aloadN X1 hx hby d11_5 (pc' := 6) rfl rfl rfl ?_
  refine Gol.iconst X1 hx hby d11_6 (pc' := 7) rfl (z := (-1 : Int32)) rfl ?_
  refine Gol.putF X1 hx hby hZ hown (host := "") (Or.inl (hw _ (List.mem_of_getElem? (i := 12) rfl))) Via.refl e1 F_r0_deferredMove E_r0 (Or.inl (hw _ (List.mem_of_getElem? (i := 13) rfl))) (hw _ (List.mem_of_getElem? (i := 1) rfl)) (ty := .int) (by decide) rfl rfl d11_7 (pc' := 10) rfl ?_
  intro T2 h2 X2 e2 W2
  have E_r0 := E_r0.wr W2
  have F_r0_lastSent := F_r0_lastSent.other W2 (Or.inr (slot_ne (Or.inl (hw _ (List.mem_of_getElem? (i := 11) rfl))) (Or.inl (hw _ (List.mem_of_getElem? (i := 13) rfl))) (by decide) (t := .long) (t' := .int) (by decide) (by decide)))
  have F_r0_awaitingFlush := F_r0_awaitingFlush.other W2 (Or.inr (slot_ne (Or.inl (hw _ (List.mem_of_getElem? (i := 80) rfl))) (Or.inl (hw _ (List.mem_of_getElem? (i := 13) rfl))) (by decide) (t := .boolean) (t' := .int) (by decide) (by decide)))
  have F_r0_held := F_r0_held.other W2 (Or.inr (slot_ne (Or.inl (hw _ (List.mem_of_getElem? (i := 20) rfl))) (Or.inl (hw _ (List.mem_of_getElem? (i := 13) rfl))) (by decide) (t := (.object "java/util/List")) (t' := .int) (by decide) (by decide)))
  have F_r0_deferredMove := F_r0_deferredMove.same W2
  have K := K.wr W2 (Or.inl (List.mem_of_getElem? (i := 0) rfl))
  have Zs := Nat.le_trans Zs (Keep.of_wr W2).1
  have N2 := Fr.snoc X2 N0 g_r0
  refine Gol.iloadN X2 hx hby d11_10 (pc' := 11) rfl rfl ?_
  exact Gol.retI X2 hx hby Bd.returns Bd.notSynchronized d11_11 e2 ⟨rfl, N2, K, ⟨E_r0, F_r0_lastSent, F_r0_awaitingFlush, F_r0_held, F_r0_deferredMove⟩⟩ (by decide) (by decide)
theorem d14_0 : decode prog_120_method_5_code 0 = .ok (.aload_n 0, 1) := by decide +kernel
theorem d14_1 : decode prog_120_method_5_code 1 = .ok (.iconst 0, 1) := by decide +kernel
theorem d14_2 : decode prog_120_method_5_code 2 = .ok (.putfield 19, 3) := by decide +kernel
theorem d14_5 : decode prog_120_method_5_code 5 = .ok (.return_, 1) := by decide +kernel
theorem pn_14 : plainName "com/example/ballast/ballast/runtime/Outbox" = true := by first | (simp [plainName, overriddenIn]; done) | decide +kernel
theorem ef_14 (m : MethodId) (r0 : Addr) : entryFrame m #[(.ref r0)] 1 = mkF m 0 #[.val (.ref r0)] [] := by first | (simp [entryFrame, mkF, argsToLocals, Value.category]; done) | rfl
abbrev QFlushed (Z : State) (r0 : Addr) (v0 : Value) (v1 : Value) (v2 : Value) (v3 : Value) (h0 : Heap) (n0 : Nat) (v : Option Value) (h : Heap) (L : List Loc) : Prop := v = none ∧ Fr n0 L ∧ Keep h0 h [r0] ∧ Ob Z h r0 v0 (.int (0 : Int32)) v2 v3
set_option maxRecDepth 65536 in
set_option maxHeartbeats 40000000 in
theorem rmFlushed (l : Launch) (Z : State) (a0 : Array Value) (hw : ∀ d ∈ tables_1, d.before a0 Z = true) (ws : List Jvm.Cond) (r0 : Addr) (v0 : Value) (v1 : Value) (v2 : Value) (v3 : Value) (h0 : Heap) (n0 : Nat) (Z0 : n0 ≤ h0.size) (O0 : Ob Z h0 r0 v0 v1 v2 v3) (g_r0 : n0 ≤ r0) :
    MetFree l (⟨"com/example/ballast/ballast/runtime/Outbox", "flushed", "()V"⟩ : MethodName) (head1 (Jvm.Cond.code (⟨"com/example/ballast/ballast/runtime/Outbox", "flushed", "()V"⟩ : MethodName) prog_120_method_5_code 1 none :: ws) ({ frames := 0, cells := 0, slots := 0, locals := 0 } : Room)) (fun a U => a = #[(.ref r0)] ∧ Z.Warmed39 U.vm ∧ U.heap = h0) (fun _ _ _ _ _ => True) (fun _ U o U' => ∃ v L, o = .returned v ∧ QFlushed Z r0 v0 v1 v2 v3 h0 n0 v U'.heap L ∧ FrameEnd U o U' L 0 0) := by
  refine MetFree.of_bodySF (plainFor_of_name pn_14) hisR ?_
  intro p ev s m args below meth c s₁ Bd hml0 hP hK
  obtain ⟨rfl, hZ, hh⟩ := hP
  have hx := Bd.exec
  have hby := Bd.bytes
  have hml : c.maxLocals = 1 := hml0
  have hown : s.vm.findClass "com/example/ballast/ballast/runtime/Outbox" = some m.cls := findClass_of_methodNamed Bd.named
  have hnm := (name_of_methodNamed Bd.named Bd.method).1
  have X0 : Stand p l ev ({ frames := 0, cells := 0, slots := 0, locals := 0 } : Room) s m #[(.ref r0)] below meth c s₁ [] 0 0 := Stand.of_body Bd
  have eh0 : s₁.heap = h0 := by rw [← hh, Bd.state]; rfl
  have N0 := Fr.nil n0
  have Zs := Z0
  show Gol p ev below (FrameEnd s) (QFlushed Z r0 v0 v1 v2 v3 h0 n0) 0 0 (s₁.setTop (entryFrame m #[(.ref r0)] 1))
  rw [ef_14]
  obtain ⟨E_r0, F_r0_lastSent, F_r0_awaitingFlush, F_r0_held, F_r0_deferredMove⟩ := O0
  have K := Keep.refl h0 [r0]
  show GolF _ _ _ _ _ _ _ s₁ m 0 #[.val (.ref r0)] []
  refine Gol.aloadN X0 hx hby d14_0 (pc' := 1) rfl rfl rfl ?_
  refine Gol.iconst X0 hx hby d14_1 (pc' := 2) rfl (z := (0 : Int32)) rfl ?_
  refine Gol.putFN X0 hx hby hZ hown (hw _ (List.mem_of_getElem? (i := 79) rfl)) Via.refl eh0 F_r0_awaitingFlush E_r0 (Or.inl (hw _ (List.mem_of_getElem? (i := 80) rfl))) (hw _ (List.mem_of_getElem? (i := 1) rfl)) (ty := .boolean) (v' := (.int (0 : Int32))) (by decide) rfl (by decide) d14_2 (pc' := 5) rfl ?_
  intro T1 h1 X1 e1 W1
  have E_r0 := E_r0.wr W1
  have F_r0_lastSent := F_r0_lastSent.other W1 (Or.inr (slot_ne (Or.inl (hw _ (List.mem_of_getElem? (i := 11) rfl))) (Or.inl (hw _ (List.mem_of_getElem? (i := 80) rfl))) (by decide) (t := .long) (t' := .boolean) (by decide) (by decide)))
  have F_r0_awaitingFlush := F_r0_awaitingFlush.same W1
  have F_r0_held := F_r0_held.other W1 (Or.inr (slot_ne (Or.inl (hw _ (List.mem_of_getElem? (i := 20) rfl))) (Or.inl (hw _ (List.mem_of_getElem? (i := 80) rfl))) (by decide) (t := (.object "java/util/List")) (t' := .boolean) (by decide) (by decide)))
  have F_r0_deferredMove := F_r0_deferredMove.other W1 (Or.inr (slot_ne (Or.inl (hw _ (List.mem_of_getElem? (i := 13) rfl))) (Or.inl (hw _ (List.mem_of_getElem? (i := 80) rfl))) (by decide) (t := .int) (t' := .boolean) (by decide) (by decide)))
  have K := K.wr W1 (Or.inl (List.mem_of_getElem? (i := 0) rfl))
  have Zs := Nat.le_trans Zs (Keep.of_wr W1).1
  have N1 := Fr.snoc X1 N0 g_r0
  exact Gol.ret0 X1 hx hby Bd.returns Bd.notSynchronized d14_5 e1 ⟨rfl, N1, K, ⟨E_r0, F_r0_lastSent, F_r0_awaitingFlush, F_r0_held, F_r0_deferredMove⟩⟩ (by decide) (by decide)
theorem d13_0 : decode prog_120_method_4_code 0 = .ok (.aload_n 0, 1) := by decide +kernel
theorem d13_1 : decode prog_120_method_4_code 1 = .ok (.getfield 19, 3) := by decide +kernel
theorem d13_4 : decode prog_120_method_4_code 4 = .ok (.ifCond .eq 5, 3) := by decide +kernel
theorem d13_7 : decode prog_120_method_4_code 7 = .ok (.iconst 0, 1) := by decide +kernel
theorem d13_8 : decode prog_120_method_4_code 8 = .ok (.ireturn, 1) := by decide +kernel
theorem d13_9 : decode prog_120_method_4_code 9 = .ok (.aload_n 0, 1) := by decide +kernel
theorem d13_10 : decode prog_120_method_4_code 10 = .ok (.iconst 1, 1) := by decide +kernel
theorem d13_11 : decode prog_120_method_4_code 11 = .ok (.putfield 19, 3) := by decide +kernel
theorem d13_14 : decode prog_120_method_4_code 14 = .ok (.iconst 1, 1) := by decide +kernel
theorem d13_15 : decode prog_120_method_4_code 15 = .ok (.ireturn, 1) := by decide +kernel
theorem pn_13 : plainName "com/example/ballast/ballast/runtime/Outbox" = true := by first | (simp [plainName, overriddenIn]; done) | decide +kernel
theorem ef_13 (m : MethodId) (r0 : Addr) : entryFrame m #[(.ref r0)] 1 = mkF m 0 #[.val (.ref r0)] [] := by first | (simp [entryFrame, mkF, argsToLocals, Value.category]; done) | rfl
abbrev QAwait (Z : State) (r0 : Addr) (v0 : Value) (v2 : Value) (v3 : Value) (aw : Int32) (h0 : Heap) (n0 : Nat) (v : Option Value) (h : Heap) (L : List Loc) : Prop := ∃ z az : Int32, v = some (.int z) ∧ Fr n0 L ∧ Keep h0 h [r0] ∧ Ob Z h r0 v0 (.int az) v2 v3
set_option maxRecDepth 65536 in
set_option maxHeartbeats 40000000 in
theorem rmAwait (l : Launch) (Z : State) (a0 : Array Value) (hw : ∀ d ∈ tables_1, d.before a0 Z = true) (ws : List Jvm.Cond) (r0 : Addr) (v0 : Value) (v2 : Value) (v3 : Value) (aw : Int32) (h0 : Heap) (n0 : Nat) (Z0 : n0 ≤ h0.size) (O0 : Ob Z h0 r0 v0 (.int aw) v2 v3) (g_r0 : n0 ≤ r0) :
    MetFree l (⟨"com/example/ballast/ballast/runtime/Outbox", "awaitFlush", "()Z"⟩ : MethodName) (head1 (Jvm.Cond.code (⟨"com/example/ballast/ballast/runtime/Outbox", "awaitFlush", "()Z"⟩ : MethodName) prog_120_method_4_code 1 (some .boolean) :: ws) ({ frames := 0, cells := 0, slots := 0, locals := 0 } : Room)) (fun a U => a = #[(.ref r0)] ∧ Z.Warmed39 U.vm ∧ U.heap = h0) (fun _ _ _ _ _ => True) (fun _ U o U' => ∃ v L, o = .returned v ∧ QAwait Z r0 v0 v2 v3 aw h0 n0 v U'.heap L ∧ FrameEnd U o U' L 0 0) := by
  refine MetFree.of_bodySF (plainFor_of_name pn_13) hisR ?_
  intro p ev s m args below meth c s₁ Bd hml0 hP hK
  obtain ⟨rfl, hZ, hh⟩ := hP
  have hx := Bd.exec
  have hby := Bd.bytes
  have hml : c.maxLocals = 1 := hml0
  have hown : s.vm.findClass "com/example/ballast/ballast/runtime/Outbox" = some m.cls := findClass_of_methodNamed Bd.named
  have hnm := (name_of_methodNamed Bd.named Bd.method).1
  have X0 : Stand p l ev ({ frames := 0, cells := 0, slots := 0, locals := 0 } : Room) s m #[(.ref r0)] below meth c s₁ [] 0 0 := Stand.of_body Bd
  have eh0 : s₁.heap = h0 := by rw [← hh, Bd.state]; rfl
  have N0 := Fr.nil n0
  have Zs := Z0
  show Gol p ev below (FrameEnd s) (QAwait Z r0 v0 v2 v3 aw h0 n0) 0 0 (s₁.setTop (entryFrame m #[(.ref r0)] 1))
  rw [ef_13]
  obtain ⟨E_r0, F_r0_lastSent, F_r0_awaitingFlush, F_r0_held, F_r0_deferredMove⟩ := O0
  have K := Keep.refl h0 [r0]
  show GolF _ _ _ _ _ _ _ s₁ m 0 #[.val (.ref r0)] []
  refine Gol.aloadN X0 hx hby d13_0 (pc' := 1) rfl rfl rfl ?_
  refine Gol.getF X0 hx hby hZ hown (host := "") (Or.inl (hw _ (List.mem_of_getElem? (i := 79) rfl))) Via.refl eh0 F_r0_awaitingFlush d13_1 (pc' := 4) rfl ?_
  intro T1 X1 e1
  by_cases hc4_2 : aw = (0 : Int32)
  · skip
    refine Gol.ifYes X1 hx hby d13_4 (pc' := 9) (by decide) ((if0 _ _).trans (teq hc4_2).1) ?_
    refine Gol.aloadN X1 hx hby d13_9 (pc' := 10) rfl rfl rfl ?_
    refine Gol.iconst X1 hx hby d13_10 (pc' := 11) rfl (z := (1 : Int32)) rfl ?_
    refine Gol.putFN X1 hx hby hZ hown (hw _ (List.mem_of_getElem? (i := 79) rfl)) Via.refl e1 F_r0_awaitingFlush E_r0 (Or.inl (hw _ (List.mem_of_getElem? (i := 80) rfl))) (hw _ (List.mem_of_getElem? (i := 1) rfl)) (ty := .boolean) (v' := (.int (1 : Int32))) (by decide) rfl (by decide) d13_11 (pc' := 14) rfl ?_
    intro T3 h3 X3 e3 W3
    have E_r0 := E_r0.wr W3
    have F_r0_lastSent := F_r0_lastSent.other W3 (Or.inr (slot_ne (Or.inl (hw _ (List.mem_of_getElem? (i := 11) rfl))) (Or.inl (hw _ (List.mem_of_getElem? (i := 80) rfl))) (by decide) (t := .long) (t' := .boolean) (by decide) (by decide)))
    have F_r0_awaitingFlush := F_r0_awaitingFlush.same W3
    have F_r0_held := F_r0_held.other W3 (Or.inr (slot_ne (Or.inl (hw _ (List.mem_of_getElem? (i := 20) rfl))) (Or.inl (hw _ (List.mem_of_getElem? (i := 80) rfl))) (by decide) (t := (.object "java/util/List")) (t' := .boolean) (by decide) (by decide)))
    have F_r0_deferredMove := F_r0_deferredMove.other W3 (Or.inr (slot_ne (Or.inl (hw _ (List.mem_of_getElem? (i := 13) rfl))) (Or.inl (hw _ (List.mem_of_getElem? (i := 80) rfl))) (by decide) (t := .int) (t' := .boolean) (by decide) (by decide)))
    have K := K.wr W3 (Or.inl (List.mem_of_getElem? (i := 0) rfl))
    have Zs := Nat.le_trans Zs (Keep.of_wr W3).1
    have N3 := Fr.snoc X3 N0 g_r0
    refine Gol.iconst X3 hx hby d13_14 (pc' := 15) rfl (z := (1 : Int32)) rfl ?_
    exact Gol.retN X3 hx hby (t := .boolean) Bd.returns (by simp) Bd.notSynchronized d13_15 e3 ⟨(1 : Int32), (1 : Int32), rfl, N3, K, ⟨E_r0, F_r0_lastSent, F_r0_awaitingFlush, F_r0_held, F_r0_deferredMove⟩⟩ (by decide) (by decide)
  · skip
    refine Gol.ifNo X1 hx hby d13_4 (pc' := 7) rfl ((if0 _ _).trans (feq hc4_2).1) ?_
    refine Gol.iconst X1 hx hby d13_7 (pc' := 8) rfl (z := (0 : Int32)) rfl ?_
    exact Gol.retN X1 hx hby (t := .boolean) Bd.returns (by simp) Bd.notSynchronized d13_8 e1 ⟨(0 : Int32), aw, rfl, N0, K, ⟨E_r0, F_r0_lastSent, F_r0_awaitingFlush, F_r0_held, F_r0_deferredMove⟩⟩ (by decide) (by decide)
theorem d12_0 : decode prog_120_method_9_code 0 = .ok (.aload_n 0, 1) := by decide +kernel
theorem d12_1 : decode prog_120_method_9_code 1 = .ok (.getfield 26, 3) := by decide +kernel
theorem d12_4 : decode prog_120_method_9_code 4 = .ok (.astore_n 1, 1) := by decide +kernel
theorem d12_5 : decode prog_120_method_9_code 5 = .ok (.aload_n 0, 1) := by decide +kernel
theorem d12_6 : decode prog_120_method_9_code 6 = .ok (.aconst_null, 1) := by decide +kernel
theorem d12_7 : decode prog_120_method_9_code 7 = .ok (.putfield 26, 3) := by decide +kernel
theorem d12_10 : decode prog_120_method_9_code 10 = .ok (.aload_n 1, 1) := by decide +kernel
theorem d12_11 : decode prog_120_method_9_code 11 = .ok (.areturn, 1) := by decide +kernel
theorem pn_12 : plainName "com/example/ballast/ballast/runtime/Outbox" = true := by first | (simp [plainName, overriddenIn]; done) | decide +kernel
theorem ef_12 (m : MethodId) (r0 : Addr) : entryFrame m #[(.ref r0)] 2 = mkF m 0 #[.val (.ref r0), .unset] [] := by first | (simp [entryFrame, mkF, argsToLocals, Value.category]; done) | rfl
abbrev QRelN (Z : State) (r0 : Addr) (v0 : Value) (v1 : Value) (v3 : Value) (h0 : Heap) (n0 : Nat) (v : Option Value) (h : Heap) (L : List Loc) : Prop := v = some .null ∧ Fr n0 L ∧ Keep h0 h [r0] ∧ Ob Z h r0 v0 v1 .null v3
set_option maxRecDepth 65536 in
set_option maxHeartbeats 40000000 in
theorem rmRelN (l : Launch) (Z : State) (a0 : Array Value) (hw : ∀ d ∈ tables_1, d.before a0 Z = true) (ws : List Jvm.Cond) (r0 : Addr) (v0 : Value) (v1 : Value) (v3 : Value) (h0 : Heap) (n0 : Nat) (Z0 : n0 ≤ h0.size) (O0 : Ob Z h0 r0 v0 v1 .null v3) (g_r0 : n0 ≤ r0) :
    MetFree l (⟨"com/example/ballast/ballast/runtime/Outbox", "release", "()Ljava/util/List;"⟩ : MethodName) (head1 (Jvm.Cond.code (⟨"com/example/ballast/ballast/runtime/Outbox", "release", "()Ljava/util/List;"⟩ : MethodName) prog_120_method_9_code 2 (some (.object "java/util/List")) :: ws) ({ frames := 0, cells := 0, slots := 0, locals := 0 } : Room)) (fun a U => a = #[(.ref r0)] ∧ Z.Warmed39 U.vm ∧ U.heap = h0) (fun _ _ _ _ _ => True) (fun _ U o U' => ∃ v L, o = .returned v ∧ QRelN Z r0 v0 v1 v3 h0 n0 v U'.heap L ∧ FrameEnd U o U' L 0 0) := by
  refine MetFree.of_bodySF (plainFor_of_name pn_12) hisR ?_
  intro p ev s m args below meth c s₁ Bd hml0 hP hK
  obtain ⟨rfl, hZ, hh⟩ := hP
  have hx := Bd.exec
  have hby := Bd.bytes
  have hml : c.maxLocals = 2 := hml0
  have hown : s.vm.findClass "com/example/ballast/ballast/runtime/Outbox" = some m.cls := findClass_of_methodNamed Bd.named
  have hnm := (name_of_methodNamed Bd.named Bd.method).1
  have X0 : Stand p l ev ({ frames := 0, cells := 0, slots := 0, locals := 0 } : Room) s m #[(.ref r0)] below meth c s₁ [] 0 0 := Stand.of_body Bd
  have eh0 : s₁.heap = h0 := by rw [← hh, Bd.state]; rfl
  have N0 := Fr.nil n0
  have Zs := Z0
  show Gol p ev below (FrameEnd s) (QRelN Z r0 v0 v1 v3 h0 n0) 0 0 (s₁.setTop (entryFrame m #[(.ref r0)] 2))
  rw [ef_12]
  obtain ⟨E_r0, F_r0_lastSent, F_r0_awaitingFlush, F_r0_held, F_r0_deferredMove⟩ := O0
  have K := Keep.refl h0 [r0]
  show GolF _ _ _ _ _ _ _ s₁ m 0 #[.val (.ref r0), .unset] []
  refine Gol.aloadN X0 hx hby d12_0 (pc' := 1) rfl rfl rfl ?_
  refine Gol.getF X0 hx hby hZ hown (host := "") (Or.inl (hw _ (List.mem_of_getElem? (i := 19) rfl))) Via.refl eh0 F_r0_held d12_1 (pc' := 4) rfl ?_
  intro T1 X1 e1
  refine Gol.astoreN X1 hx hby d12_4 (pc' := 5) rfl rfl (l' := #[.val (.ref r0), .val .null]) rfl ?_
  refine Gol.aloadN X1 hx hby d12_5 (pc' := 6) rfl rfl rfl ?_
  refine Gol.aconstNull X1 hx hby d12_6 (pc' := 7) rfl ?_
  refine Gol.putF X1 hx hby hZ hown (host := "") (Or.inl (hw _ (List.mem_of_getElem? (i := 19) rfl))) Via.refl e1 F_r0_held E_r0 (Or.inl (hw _ (List.mem_of_getElem? (i := 20) rfl))) (hw _ (List.mem_of_getElem? (i := 1) rfl)) (ty := (.object "java/util/List")) (by decide) rfl rfl d12_7 (pc' := 10) rfl ?_
  intro T2 h2 X2 e2 W2
  have E_r0 := E_r0.wr W2
  have F_r0_lastSent := F_r0_lastSent.other W2 (Or.inr (slot_ne (Or.inl (hw _ (List.mem_of_getElem? (i := 11) rfl))) (Or.inl (hw _ (List.mem_of_getElem? (i := 20) rfl))) (by decide) (t := .long) (t' := (.object "java/util/List")) (by decide) (by decide)))
  have F_r0_awaitingFlush := F_r0_awaitingFlush.other W2 (Or.inr (slot_ne (Or.inl (hw _ (List.mem_of_getElem? (i := 80) rfl))) (Or.inl (hw _ (List.mem_of_getElem? (i := 20) rfl))) (by decide) (t := .boolean) (t' := (.object "java/util/List")) (by decide) (by decide)))
  have F_r0_held := F_r0_held.same W2
  have F_r0_deferredMove := F_r0_deferredMove.other W2 (Or.inr (slot_ne (Or.inl (hw _ (List.mem_of_getElem? (i := 13) rfl))) (Or.inl (hw _ (List.mem_of_getElem? (i := 20) rfl))) (by decide) (t := .int) (t' := (.object "java/util/List")) (by decide) (by decide)))
  have K := K.wr W2 (Or.inl (List.mem_of_getElem? (i := 0) rfl))
  have Zs := Nat.le_trans Zs (Keep.of_wr W2).1
  have N2 := Fr.snoc X2 N0 g_r0
  refine Gol.aloadN X2 hx hby d12_10 (pc' := 11) rfl rfl rfl ?_
  exact Gol.retA X2 hx hby Bd.returns rfl rfl Bd.notSynchronized d12_11 e2 ⟨rfl, N2, K, ⟨E_r0, F_r0_lastSent, F_r0_awaitingFlush, F_r0_held, F_r0_deferredMove⟩⟩ (by decide) (by decide)
abbrev QRelR (Z : State) (r0 : Addr) (v0 : Value) (v1 : Value) (v3 : Value) (hb : Addr) (h0 : Heap) (n0 : Nat) (v : Option Value) (h : Heap) (L : List Loc) : Prop := v = some (.ref hb) ∧ Fr n0 L ∧ Keep h0 h [r0] ∧ Ob Z h r0 v0 v1 .null v3
set_option maxRecDepth 65536 in
set_option maxHeartbeats 40000000 in
theorem rmRelR (l : Launch) (Z : State) (a0 : Array Value) (hw : ∀ d ∈ tables_1, d.before a0 Z = true) (ws : List Jvm.Cond) (r0 : Addr) (v0 : Value) (v1 : Value) (v3 : Value) (hb : Addr) (h0 : Heap) (n0 : Nat) (Z0 : n0 ≤ h0.size) (O0 : Ob Z h0 r0 v0 v1 (.ref hb) v3) (g_r0 : n0 ≤ r0) :
    MetFree l (⟨"com/example/ballast/ballast/runtime/Outbox", "release", "()Ljava/util/List;"⟩ : MethodName) (head1 (Jvm.Cond.code (⟨"com/example/ballast/ballast/runtime/Outbox", "release", "()Ljava/util/List;"⟩ : MethodName) prog_120_method_9_code 2 (some (.object "java/util/List")) :: ws) ({ frames := 0, cells := 0, slots := 0, locals := 0 } : Room)) (fun a U => a = #[(.ref r0)] ∧ Z.Warmed39 U.vm ∧ U.heap = h0) (fun _ _ _ _ _ => True) (fun _ U o U' => ∃ v L, o = .returned v ∧ QRelR Z r0 v0 v1 v3 hb h0 n0 v U'.heap L ∧ FrameEnd U o U' L 0 0) := by
  refine MetFree.of_bodySF (plainFor_of_name pn_12) hisR ?_
  intro p ev s m args below meth c s₁ Bd hml0 hP hK
  obtain ⟨rfl, hZ, hh⟩ := hP
  have hx := Bd.exec
  have hby := Bd.bytes
  have hml : c.maxLocals = 2 := hml0
  have hown : s.vm.findClass "com/example/ballast/ballast/runtime/Outbox" = some m.cls := findClass_of_methodNamed Bd.named
  have hnm := (name_of_methodNamed Bd.named Bd.method).1
  have X0 : Stand p l ev ({ frames := 0, cells := 0, slots := 0, locals := 0 } : Room) s m #[(.ref r0)] below meth c s₁ [] 0 0 := Stand.of_body Bd
  have eh0 : s₁.heap = h0 := by rw [← hh, Bd.state]; rfl
  have N0 := Fr.nil n0
  have Zs := Z0
  show Gol p ev below (FrameEnd s) (QRelR Z r0 v0 v1 v3 hb h0 n0) 0 0 (s₁.setTop (entryFrame m #[(.ref r0)] 2))
  rw [ef_12]
  obtain ⟨E_r0, F_r0_lastSent, F_r0_awaitingFlush, F_r0_held, F_r0_deferredMove⟩ := O0
  have K := Keep.refl h0 [r0]
  show GolF _ _ _ _ _ _ _ s₁ m 0 #[.val (.ref r0), .unset] []
  refine Gol.aloadN X0 hx hby d12_0 (pc' := 1) rfl rfl rfl ?_
  refine Gol.getF X0 hx hby hZ hown (host := "") (Or.inl (hw _ (List.mem_of_getElem? (i := 19) rfl))) Via.refl eh0 F_r0_held d12_1 (pc' := 4) rfl ?_
  intro T1 X1 e1
  refine Gol.astoreN X1 hx hby d12_4 (pc' := 5) rfl rfl (l' := #[.val (.ref r0), .val (.ref hb)]) rfl ?_
  refine Gol.aloadN X1 hx hby d12_5 (pc' := 6) rfl rfl rfl ?_
  refine Gol.aconstNull X1 hx hby d12_6 (pc' := 7) rfl ?_
  refine Gol.putF X1 hx hby hZ hown (host := "") (Or.inl (hw _ (List.mem_of_getElem? (i := 19) rfl))) Via.refl e1 F_r0_held E_r0 (Or.inl (hw _ (List.mem_of_getElem? (i := 20) rfl))) (hw _ (List.mem_of_getElem? (i := 1) rfl)) (ty := (.object "java/util/List")) (by decide) rfl rfl d12_7 (pc' := 10) rfl ?_
  intro T2 h2 X2 e2 W2
  have E_r0 := E_r0.wr W2
  have F_r0_lastSent := F_r0_lastSent.other W2 (Or.inr (slot_ne (Or.inl (hw _ (List.mem_of_getElem? (i := 11) rfl))) (Or.inl (hw _ (List.mem_of_getElem? (i := 20) rfl))) (by decide) (t := .long) (t' := (.object "java/util/List")) (by decide) (by decide)))
  have F_r0_awaitingFlush := F_r0_awaitingFlush.other W2 (Or.inr (slot_ne (Or.inl (hw _ (List.mem_of_getElem? (i := 80) rfl))) (Or.inl (hw _ (List.mem_of_getElem? (i := 20) rfl))) (by decide) (t := .boolean) (t' := (.object "java/util/List")) (by decide) (by decide)))
  have F_r0_held := F_r0_held.same W2
  have F_r0_deferredMove := F_r0_deferredMove.other W2 (Or.inr (slot_ne (Or.inl (hw _ (List.mem_of_getElem? (i := 13) rfl))) (Or.inl (hw _ (List.mem_of_getElem? (i := 20) rfl))) (by decide) (t := .int) (t' := (.object "java/util/List")) (by decide) (by decide)))
  have K := K.wr W2 (Or.inl (List.mem_of_getElem? (i := 0) rfl))
  have Zs := Nat.le_trans Zs (Keep.of_wr W2).1
  have N2 := Fr.snoc X2 N0 g_r0
  refine Gol.aloadN X2 hx hby d12_10 (pc' := 11) rfl rfl rfl ?_
  exact Gol.retA X2 hx hby Bd.returns rfl rfl Bd.notSynchronized d12_11 e2 ⟨rfl, N2, K, ⟨E_r0, F_r0_lastSent, F_r0_awaitingFlush, F_r0_held, F_r0_deferredMove⟩⟩ (by decide) (by decide)
theorem d3_0 : decode prog_120_method_7_code 0 = .ok (.aload_n 0, 1) := by decide +kernel
theorem d3_1 : decode prog_120_method_7_code 1 = .ok (.getfield 26, 3) := by decide +kernel
theorem d3_4 : decode prog_120_method_7_code 4 = .ok (.ifnull 7, 3) := by decide +kernel
theorem d3_11 : decode prog_120_method_7_code 11 = .ok (.iconst 0, 1) := by decide +kernel
theorem d3_12 : decode prog_120_method_7_code 12 = .ok (.ireturn, 1) := by decide +kernel
theorem pn_3 : plainName "com/example/ballast/ballast/runtime/Outbox" = true := by first | (simp [plainName, overriddenIn]; done) | decide +kernel
theorem ef_3 (m : MethodId) (r0 : Addr) : entryFrame m #[(.ref r0)] 1 = mkF m 0 #[.val (.ref r0)] [] := by first | (simp [entryFrame, mkF, argsToLocals, Value.category]; done) | rfl
abbrev QHolN (Z : State) (r0 : Addr) (v0 : Value) (v1 : Value) (v3 : Value) (h0 : Heap) (n0 : Nat) (v : Option Value) (h : Heap) (L : List Loc) : Prop := v = some (.int (0 : Int32)) ∧ Fr n0 L ∧ h = h0
set_option maxRecDepth 65536 in
set_option maxHeartbeats 40000000 in
theorem rmHolN (l : Launch) (Z : State) (a0 : Array Value) (hw : ∀ d ∈ tables_1, d.before a0 Z = true) (ws : List Jvm.Cond) (r0 : Addr) (v0 : Value) (v1 : Value) (v3 : Value) (h0 : Heap) (n0 : Nat) (Z0 : n0 ≤ h0.size) (O0 : Ob Z h0 r0 v0 v1 .null v3) (g_r0 : n0 ≤ r0) :
    MetFree l (⟨"com/example/ballast/ballast/runtime/Outbox", "isHolding", "()Z"⟩ : MethodName) (head1 (Jvm.Cond.code (⟨"com/example/ballast/ballast/runtime/Outbox", "isHolding", "()Z"⟩ : MethodName) prog_120_method_7_code 1 (some .boolean) :: ws) ({ frames := 0, cells := 0, slots := 0, locals := 0 } : Room)) (fun a U => a = #[(.ref r0)] ∧ Z.Warmed39 U.vm ∧ U.heap = h0) (fun _ _ _ _ _ => True) (fun _ U o U' => ∃ v L, o = .returned v ∧ QHolN Z r0 v0 v1 v3 h0 n0 v U'.heap L ∧ FrameEnd U o U' L 0 0) := by
  refine MetFree.of_bodySF (plainFor_of_name pn_3) hisR ?_
  intro p ev s m args below meth c s₁ Bd hml0 hP hK
  obtain ⟨rfl, hZ, hh⟩ := hP
  have hx := Bd.exec
  have hby := Bd.bytes
  have hml : c.maxLocals = 1 := hml0
  have hown : s.vm.findClass "com/example/ballast/ballast/runtime/Outbox" = some m.cls := findClass_of_methodNamed Bd.named
  have hnm := (name_of_methodNamed Bd.named Bd.method).1
  have X0 : Stand p l ev ({ frames := 0, cells := 0, slots := 0, locals := 0 } : Room) s m #[(.ref r0)] below meth c s₁ [] 0 0 := Stand.of_body Bd
  have eh0 : s₁.heap = h0 := by rw [← hh, Bd.state]; rfl
  have N0 := Fr.nil n0
  have Zs := Z0
  show Gol p ev below (FrameEnd s) (QHolN Z r0 v0 v1 v3 h0 n0) 0 0 (s₁.setTop (entryFrame m #[(.ref r0)] 1))
  rw [ef_3]
  obtain ⟨E_r0, F_r0_lastSent, F_r0_awaitingFlush, F_r0_held, F_r0_deferredMove⟩ := O0
  have K := Keep.refl h0 [r0]
  show GolF _ _ _ _ _ _ _ s₁ m 0 #[.val (.ref r0)] []
  refine Gol.aloadN X0 hx hby d3_0 (pc' := 1) rfl rfl rfl ?_
  refine Gol.getF X0 hx hby hZ hown (host := "") (Or.inl (hw _ (List.mem_of_getElem? (i := 19) rfl))) Via.refl eh0 F_r0_held d3_1 (pc' := 4) rfl ?_
  intro T1 X1 e1
  refine Gol.ifnullYes X1 hx hby d3_4 (pc' := 11) (by decide) ?_
  refine Gol.iconst X1 hx hby d3_11 (pc' := 12) rfl (z := (0 : Int32)) rfl ?_
  exact Gol.retN X1 hx hby (t := .boolean) Bd.returns (by simp) Bd.notSynchronized d3_12 e1 ⟨rfl, N0, rfl⟩ (by decide) (by decide)
theorem d3_7 : decode prog_120_method_7_code 7 = .ok (.iconst 1, 1) := by decide +kernel
theorem d3_8 : decode prog_120_method_7_code 8 = .ok (.goto 4, 3) := by decide +kernel
abbrev QHolR (Z : State) (r0 : Addr) (v0 : Value) (v1 : Value) (v3 : Value) (hb : Addr) (h0 : Heap) (n0 : Nat) (v : Option Value) (h : Heap) (L : List Loc) : Prop := v = some (.int (1 : Int32)) ∧ Fr n0 L ∧ h = h0
set_option maxRecDepth 65536 in
set_option maxHeartbeats 40000000 in
theorem rmHolR (l : Launch) (Z : State) (a0 : Array Value) (hw : ∀ d ∈ tables_1, d.before a0 Z = true) (ws : List Jvm.Cond) (r0 : Addr) (v0 : Value) (v1 : Value) (v3 : Value) (hb : Addr) (h0 : Heap) (n0 : Nat) (Z0 : n0 ≤ h0.size) (O0 : Ob Z h0 r0 v0 v1 (.ref hb) v3) (g_r0 : n0 ≤ r0) :
    MetFree l (⟨"com/example/ballast/ballast/runtime/Outbox", "isHolding", "()Z"⟩ : MethodName) (head1 (Jvm.Cond.code (⟨"com/example/ballast/ballast/runtime/Outbox", "isHolding", "()Z"⟩ : MethodName) prog_120_method_7_code 1 (some .boolean) :: ws) ({ frames := 0, cells := 0, slots := 0, locals := 0 } : Room)) (fun a U => a = #[(.ref r0)] ∧ Z.Warmed39 U.vm ∧ U.heap = h0) (fun _ _ _ _ _ => True) (fun _ U o U' => ∃ v L, o = .returned v ∧ QHolR Z r0 v0 v1 v3 hb h0 n0 v U'.heap L ∧ FrameEnd U o U' L 0 0) := by
  refine MetFree.of_bodySF (plainFor_of_name pn_3) hisR ?_
  intro p ev s m args below meth c s₁ Bd hml0 hP hK
  obtain ⟨rfl, hZ, hh⟩ := hP
  have hx := Bd.exec
  have hby := Bd.bytes
  have hml : c.maxLocals = 1 := hml0
  have hown : s.vm.findClass "com/example/ballast/ballast/runtime/Outbox" = some m.cls := findClass_of_methodNamed Bd.named
  have hnm := (name_of_methodNamed Bd.named Bd.method).1
  have X0 : Stand p l ev ({ frames := 0, cells := 0, slots := 0, locals := 0 } : Room) s m #[(.ref r0)] below meth c s₁ [] 0 0 := Stand.of_body Bd
  have eh0 : s₁.heap = h0 := by rw [← hh, Bd.state]; rfl
  have N0 := Fr.nil n0
  have Zs := Z0
  show Gol p ev below (FrameEnd s) (QHolR Z r0 v0 v1 v3 hb h0 n0) 0 0 (s₁.setTop (entryFrame m #[(.ref r0)] 1))
  rw [ef_3]
  obtain ⟨E_r0, F_r0_lastSent, F_r0_awaitingFlush, F_r0_held, F_r0_deferredMove⟩ := O0
  have K := Keep.refl h0 [r0]
  show GolF _ _ _ _ _ _ _ s₁ m 0 #[.val (.ref r0)] []
  refine Gol.aloadN X0 hx hby d3_0 (pc' := 1) rfl rfl rfl ?_
  refine Gol.getF X0 hx hby hZ hown (host := "") (Or.inl (hw _ (List.mem_of_getElem? (i := 19) rfl))) Via.refl eh0 F_r0_held d3_1 (pc' := 4) rfl ?_
  intro T1 X1 e1
  refine Gol.ifnullNo X1 hx hby d3_4 (pc' := 7) rfl ?_
  refine Gol.iconst X1 hx hby d3_7 (pc' := 8) rfl (z := (1 : Int32)) rfl ?_
  refine Gol.goto X1 hx hby d3_8 (pc' := 12) (by decide) ?_
  exact Gol.retN X1 hx hby (t := .boolean) Bd.returns (by simp) Bd.notSynchronized d3_12 e1 ⟨rfl, N0, rfl⟩ (by decide) (by decide)
theorem d8_0 : decode jdk_22_method_1_code 0 = .ok (.aload_n 0, 1) := by decide +kernel
theorem d8_1 : decode jdk_22_method_1_code 1 = .ok (.invokespecial 1, 3) := by decide +kernel
theorem d8_4 : decode jdk_22_method_1_code 4 = .ok (.return_, 1) := by decide +kernel
theorem pn_8 : plainName "java/util/AbstractCollection" = true := by first | (simp [plainName, overriddenIn]; done) | decide +kernel
theorem ef_8 (m : MethodId) (r0 : Addr) : entryFrame m #[(.ref r0)] 1 = mkF m 0 #[.val (.ref r0)] [] := by first | (simp [entryFrame, mkF, argsToLocals, Value.category]; done) | rfl
abbrev Q8 (Z : State) (r0 : Addr) (h0 : Heap) (n0 : Nat) (v : Option Value) (h : Heap) (L : List Loc) : Prop := v = none ∧ Fr n0 L ∧ h = h0
set_option maxRecDepth 65536 in
set_option maxHeartbeats 40000000 in
theorem rm8 (l : Launch) (Z : State) (a0 : Array Value) (hw : ∀ d ∈ tables_1, d.before a0 Z = true) (ws : List Jvm.Cond) (r0 : Addr) (h0 : Heap) (n0 : Nat) (Z0 : n0 ≤ h0.size) :
    MetFree l (⟨"java/util/AbstractCollection", "<init>", "()V"⟩ : MethodName) (head1 (Jvm.Cond.code (⟨"java/util/AbstractCollection", "<init>", "()V"⟩ : MethodName) jdk_22_method_1_code 1 none :: ws) ({ frames := 1, cells := 0, slots := 0, locals := 12 } : Room)) (fun a U => a = #[(.ref r0)] ∧ Z.Warmed39 U.vm ∧ U.heap = h0) (fun _ _ _ _ _ => True) (fun _ U o U' => ∃ v L, o = .returned v ∧ Q8 Z r0 h0 n0 v U'.heap L ∧ FrameEnd U o U' L 0 0) := by
  refine MetFree.of_bodySF (plainFor_of_name pn_8) hisR ?_
  intro p ev s m args below meth c s₁ Bd hml0 hP hK
  obtain ⟨rfl, hZ, hh⟩ := hP
  have hx := Bd.exec
  have hby := Bd.bytes
  have hml : c.maxLocals = 1 := hml0
  have hown : s.vm.findClass "java/util/AbstractCollection" = some m.cls := findClass_of_methodNamed Bd.named
  have hnm := (name_of_methodNamed Bd.named Bd.method).1
  have X0 : Stand p l ev ({ frames := 1, cells := 0, slots := 0, locals := 12 } : Room) s m #[(.ref r0)] below meth c s₁ [] 0 0 := Stand.of_body Bd
  have eh0 : s₁.heap = h0 := by rw [← hh, Bd.state]; rfl
  have N0 := Fr.nil n0
  have Zs := Z0
  show Gol p ev below (FrameEnd s) (Q8 Z r0 h0 n0) 0 0 (s₁.setTop (entryFrame m #[(.ref r0)] 1))
  rw [ef_8]
  show GolF _ _ _ _ _ _ _ s₁ m 0 #[.val (.ref r0)] []
  refine Gol.aloadN X0 hx hby d8_0 (pc' := 1) rfl rfl rfl ?_
  refine Gol.initO X0 hx hby hZ hown (hw _ (List.mem_of_getElem? (i := 48) rfl)) (hw _ (List.mem_of_getElem? (i := 7) rfl)) (hw _ (List.mem_of_getElem? (i := 8) rfl)) eh0 0 d8_1 (pc' := 4) rfl (by rw [hml]; rfl) (by decide) (Nat.le_of_eq rfl) (by decide) ?_
  intro T1 X1 e1
  exact Gol.ret0 X1 hx hby Bd.returns Bd.notSynchronized d8_4 e1 ⟨rfl, N0, rfl⟩ (by decide) (by decide)
theorem d17_0 : decode jdk_30_method_1_code 0 = .ok (.aload_n 0, 1) := by decide +kernel
theorem d17_1 : decode jdk_30_method_1_code 1 = .ok (.invokespecial 1, 3) := by decide +kernel
theorem d17_4 : decode jdk_30_method_1_code 4 = .ok (.return_, 1) := by decide +kernel
theorem pn_17 : plainName "java/lang/Record" = true := by first | (simp [plainName, overriddenIn]; done) | decide +kernel
theorem ef_17 (m : MethodId) (r0 : Addr) : entryFrame m #[(.ref r0)] 1 = mkF m 0 #[.val (.ref r0)] [] := by first | (simp [entryFrame, mkF, argsToLocals, Value.category]; done) | rfl
abbrev Q17 (Z : State) (r0 : Addr) (h0 : Heap) (n0 : Nat) (v : Option Value) (h : Heap) (L : List Loc) : Prop := v = none ∧ Fr n0 L ∧ h = h0
set_option maxRecDepth 65536 in
set_option maxHeartbeats 40000000 in
theorem rm17 (l : Launch) (Z : State) (a0 : Array Value) (hw : ∀ d ∈ tables_1, d.before a0 Z = true) (ws : List Jvm.Cond) (r0 : Addr) (h0 : Heap) (n0 : Nat) (Z0 : n0 ≤ h0.size) :
    MetFree l (⟨"java/lang/Record", "<init>", "()V"⟩ : MethodName) (head1 (Jvm.Cond.code (⟨"java/lang/Record", "<init>", "()V"⟩ : MethodName) jdk_30_method_1_code 1 none :: ws) ({ frames := 1, cells := 0, slots := 0, locals := 12 } : Room)) (fun a U => a = #[(.ref r0)] ∧ Z.Warmed39 U.vm ∧ U.heap = h0) (fun _ _ _ _ _ => True) (fun _ U o U' => ∃ v L, o = .returned v ∧ Q17 Z r0 h0 n0 v U'.heap L ∧ FrameEnd U o U' L 0 0) := by
  refine MetFree.of_bodySF (plainFor_of_name pn_17) hisR ?_
  intro p ev s m args below meth c s₁ Bd hml0 hP hK
  obtain ⟨rfl, hZ, hh⟩ := hP
  have hx := Bd.exec
  have hby := Bd.bytes
  have hml : c.maxLocals = 1 := hml0
  have hown : s.vm.findClass "java/lang/Record" = some m.cls := findClass_of_methodNamed Bd.named
  have hnm := (name_of_methodNamed Bd.named Bd.method).1
  have X0 : Stand p l ev ({ frames := 1, cells := 0, slots := 0, locals := 12 } : Room) s m #[(.ref r0)] below meth c s₁ [] 0 0 := Stand.of_body Bd
  have eh0 : s₁.heap = h0 := by rw [← hh, Bd.state]; rfl
  have N0 := Fr.nil n0
  have Zs := Z0
  show Gol p ev below (FrameEnd s) (Q17 Z r0 h0 n0) 0 0 (s₁.setTop (entryFrame m #[(.ref r0)] 1))
  rw [ef_17]
  show GolF _ _ _ _ _ _ _ s₁ m 0 #[.val (.ref r0)] []
  refine Gol.aloadN X0 hx hby d17_0 (pc' := 1) rfl rfl rfl ?_
  refine Gol.initO X0 hx hby hZ hown (hw _ (List.mem_of_getElem? (i := 102) rfl)) (hw _ (List.mem_of_getElem? (i := 7) rfl)) (hw _ (List.mem_of_getElem? (i := 8) rfl)) eh0 0 d17_1 (pc' := 4) rfl (by rw [hml]; rfl) (by decide) (Nat.le_of_eq rfl) (by decide) ?_
  intro T1 X1 e1
  exact Gol.ret0 X1 hx hby Bd.returns Bd.notSynchronized d17_4 e1 ⟨rfl, N0, rfl⟩ (by decide) (by decide)
theorem d7_0 : decode jdk_39_method_1_code 0 = .ok (.aload_n 0, 1) := by decide +kernel
theorem d7_1 : decode jdk_39_method_1_code 1 = .ok (.invokespecial 1, 3) := by decide +kernel
theorem d7_4 : decode jdk_39_method_1_code 4 = .ok (.aload_n 0, 1) := by decide +kernel
theorem d7_5 : decode jdk_39_method_1_code 5 = .ok (.iconst 0, 1) := by decide +kernel
theorem d7_6 : decode jdk_39_method_1_code 6 = .ok (.putfield 7, 3) := by decide +kernel
theorem d7_9 : decode jdk_39_method_1_code 9 = .ok (.return_, 1) := by decide +kernel
theorem pn_7 : plainName "java/util/AbstractList" = true := by first | (simp [plainName, overriddenIn]; done) | decide +kernel
theorem ef_7 (m : MethodId) (r0 : Addr) : entryFrame m #[(.ref r0)] 1 = mkF m 0 #[.val (.ref r0)] [] := by first | (simp [entryFrame, mkF, argsToLocals, Value.category]; done) | rfl
abbrev QAList (Z : State) (r0 : Addr) (v0 : Value) (v1 : Value) (v2 : Value) (h0 : Heap) (n0 : Nat) (v : Option Value) (h : Heap) (L : List Loc) : Prop := v = none ∧ Fr n0 L ∧ Keep h0 h [r0] ∧ Al Z h r0 (.int (0 : Int32)) v1 v2
set_option maxRecDepth 65536 in
set_option maxHeartbeats 40000000 in
theorem rmAList (l : Launch) (Z : State) (a0 : Array Value) (hw : ∀ d ∈ tables_1, d.before a0 Z = true) (ws : List Jvm.Cond) (r0 : Addr) (v0 : Value) (v1 : Value) (v2 : Value) (h0 : Heap) (n0 : Nat) (Z0 : n0 ≤ h0.size) (O0 : Al Z h0 r0 v0 v1 v2) (g_r0 : n0 ≤ r0) :
    MetFree l (⟨"java/util/AbstractList", "<init>", "()V"⟩ : MethodName) (head1 (Jvm.Cond.code (⟨"java/util/AbstractList", "<init>", "()V"⟩ : MethodName) jdk_39_method_1_code 1 none :: ws) ({ frames := 2, cells := 0, slots := 0, locals := 24 } : Room)) (fun a U => a = #[(.ref r0)] ∧ Z.Warmed39 U.vm ∧ U.heap = h0) (fun _ _ _ _ _ => True) (fun _ U o U' => ∃ v L, o = .returned v ∧ QAList Z r0 v0 v1 v2 h0 n0 v U'.heap L ∧ FrameEnd U o U' L 0 0) := by
  refine MetFree.of_bodySF (plainFor_of_name pn_7) hisR ?_
  intro p ev s m args below meth c s₁ Bd hml0 hP hK
  obtain ⟨rfl, hZ, hh⟩ := hP
  have hx := Bd.exec
  have hby := Bd.bytes
  have hml : c.maxLocals = 1 := hml0
  have hown : s.vm.findClass "java/util/AbstractList" = some m.cls := findClass_of_methodNamed Bd.named
  have hnm := (name_of_methodNamed Bd.named Bd.method).1
  have X0 : Stand p l ev ({ frames := 2, cells := 0, slots := 0, locals := 24 } : Room) s m #[(.ref r0)] below meth c s₁ [] 0 0 := Stand.of_body Bd
  have eh0 : s₁.heap = h0 := by rw [← hh, Bd.state]; rfl
  have N0 := Fr.nil n0
  have Zs := Z0
  show Gol p ev below (FrameEnd s) (QAList Z r0 v0 v1 v2 h0 n0) 0 0 (s₁.setTop (entryFrame m #[(.ref r0)] 1))
  rw [ef_7]
  obtain ⟨E_r0, F_r0_modCount, F_r0_elementData, F_r0_size⟩ := O0
  have K := Keep.refl h0 [r0]
  show GolF _ _ _ _ _ _ _ s₁ m 0 #[.val (.ref r0)] []
  refine Gol.aloadN X0 hx hby d7_0 (pc' := 1) rfl rfl rfl ?_
  refine Gol.callI X0 hx hby hZ hown 0 [] (a := r0) (hw _ (List.mem_of_getElem? (i := 42) rfl)) (hw _ (List.mem_of_getElem? (i := 43) rfl)) (hw _ (List.mem_of_getElem? (i := 46) rfl)) rfl (hw _ (List.mem_of_getElem? (i := 47) rfl)) rfl (by decide) (rm8 l Z a0 hw [] r0  h0 n0 Zs ) (by decide) (by decide) eh0 (by rw [hml]; rfl) (rest := []) (Nat.le_of_eq rfl) (by decide) (by decide) (lenOf pd_0 rfl) rfl d7_1 (pc' := 4) rfl ?_
  intro T1 v1 L1 X1 hQ1
  obtain ⟨rfl, Nq1, eq1⟩ := hQ1
  have N1 := Fr.app N0 Nq1
  show GolF _ _ _ _ _ _ _ T1 m 4 #[.val (.ref r0)] []
  refine Gol.aloadN X1 hx hby d7_4 (pc' := 5) rfl rfl rfl ?_
  refine Gol.iconst X1 hx hby d7_5 (pc' := 6) rfl (z := (0 : Int32)) rfl ?_
  refine Gol.putF X1 hx hby hZ hown (host := "") (Or.inl (hw _ (List.mem_of_getElem? (i := 49) rfl))) Via.refl eq1 F_r0_modCount E_r0 (Or.inl (hw _ (List.mem_of_getElem? (i := 50) rfl))) (hw _ (List.mem_of_getElem? (i := 31) rfl)) (ty := .int) (by decide) rfl rfl d7_6 (pc' := 9) rfl ?_
  intro T2 h2 X2 e2 W2
  have E_r0 := E_r0.wr W2
  have F_r0_modCount := F_r0_modCount.same W2
  have F_r0_elementData := F_r0_elementData.other W2 (Or.inr (slot_ne (Or.inl (hw _ (List.mem_of_getElem? (i := 53) rfl))) (Or.inl (hw _ (List.mem_of_getElem? (i := 50) rfl))) (by decide) (t := (.array (.object "java/lang/Object"))) (t' := .int) (by decide) (by decide)))
  have F_r0_size := F_r0_size.other W2 (Or.inr (slot_ne (Or.inl (hw _ (List.mem_of_getElem? (i := 119) rfl))) (Or.inl (hw _ (List.mem_of_getElem? (i := 50) rfl))) (by decide) (t := .int) (t' := .int) (by decide) (by decide)))
  have K := K.wr W2 (Or.inl (List.mem_of_getElem? (i := 0) rfl))
  have Zs := Nat.le_trans Zs (Keep.of_wr W2).1
  have N2 := Fr.snoc X2 N1 g_r0
  exact Gol.ret0 X2 hx hby Bd.returns Bd.notSynchronized d7_9 e2 ⟨rfl, N2, K, ⟨E_r0, F_r0_modCount, F_r0_elementData, F_r0_size⟩⟩ (by decide) (by decide)
theorem d6_0 : decode jdk_38_method_2_code 0 = .ok (.aload_n 0, 1) := by decide +kernel
theorem d6_1 : decode jdk_38_method_2_code 1 = .ok (.invokespecial 1, 3) := by decide +kernel
theorem d6_4 : decode jdk_38_method_2_code 4 = .ok (.aload_n 0, 1) := by decide +kernel
theorem d6_5 : decode jdk_38_method_2_code 5 = .ok (.getstatic 39, 3) := by decide +kernel
theorem d6_8 : decode jdk_38_method_2_code 8 = .ok (.putfield 9, 3) := by decide +kernel
theorem d6_11 : decode jdk_38_method_2_code 11 = .ok (.return_, 1) := by decide +kernel
theorem pn_6 : plainName "java/util/ArrayList" = true := by first | (simp [plainName, overriddenIn]; done) | decide +kernel
theorem ef_6 (m : MethodId) (r0 : Addr) : entryFrame m #[(.ref r0)] 1 = mkF m 0 #[.val (.ref r0)] [] := by first | (simp [entryFrame, mkF, argsToLocals, Value.category]; done) | rfl
abbrev QLInit (Z : State) (r0 : Addr) (e0 : Addr) (k0 : ClassId) (h0 : Heap) (n0 : Nat) (v : Option Value) (h : Heap) (L : List Loc) : Prop := v = none ∧ Fr n0 L ∧ Keep h0 h [r0] ∧ Al Z h r0 (.int (0 : Int32)) (.ref e0) (.int (0 : Int32))
set_option maxRecDepth 65536 in
set_option maxHeartbeats 40000000 in
theorem rmLInit (l : Launch) (Z : State) (a0 : Array Value) (hw : ∀ d ∈ tables_1, d.before a0 Z = true) (ws : List Jvm.Cond) (r0 : Addr) (e0 : Addr) (k0 : ClassId) (h0 : Heap) (n0 : Nat) (Z0 : n0 ≤ h0.size) (O0 : Al Z h0 r0 (.int (0 : Int32)) .null (.int (0 : Int32))) (g_r0 : n0 ≤ r0) (S0 : Sta Z Z.heap "java/util/ArrayList" "DEFAULTCAPACITY_EMPTY_ELEMENTDATA" "[Ljava/lang/Object;" (.ref e0)) (V0 : Arv Z Z.heap e0 k0 (.object "java/lang/Object") (0 : Int32) [] .null) (O : Old Z n0 h0) :
    MetFree l (⟨"java/util/ArrayList", "<init>", "()V"⟩ : MethodName) (head1 (Jvm.Cond.code (⟨"java/util/ArrayList", "<init>", "()V"⟩ : MethodName) jdk_38_method_2_code 1 none :: ws) ({ frames := 3, cells := 0, slots := 0, locals := 36 } : Room)) (fun a U => a = #[(.ref r0)] ∧ Z.Warmed39 U.vm ∧ U.heap = h0) (fun _ _ _ _ _ => True) (fun _ U o U' => ∃ v L, o = .returned v ∧ QLInit Z r0 e0 k0 h0 n0 v U'.heap L ∧ FrameEnd U o U' L 0 0) := by
  refine MetFree.of_bodySF (plainFor_of_name pn_6) hisR ?_
  intro p ev s m args below meth c s₁ Bd hml0 hP hK
  obtain ⟨rfl, hZ, hh⟩ := hP
  have hx := Bd.exec
  have hby := Bd.bytes
  have hml : c.maxLocals = 1 := hml0
  have hown : s.vm.findClass "java/util/ArrayList" = some m.cls := findClass_of_methodNamed Bd.named
  have hnm := (name_of_methodNamed Bd.named Bd.method).1
  have X0 : Stand p l ev ({ frames := 3, cells := 0, slots := 0, locals := 36 } : Room) s m #[(.ref r0)] below meth c s₁ [] 0 0 := Stand.of_body Bd
  have eh0 : s₁.heap = h0 := by rw [← hh, Bd.state]; rfl
  have N0 := Fr.nil n0
  have Zs := Z0
  show Gol p ev below (FrameEnd s) (QLInit Z r0 e0 k0 h0 n0) 0 0 (s₁.setTop (entryFrame m #[(.ref r0)] 1))
  rw [ef_6]
  obtain ⟨E_r0, F_r0_modCount, F_r0_elementData, F_r0_size⟩ := O0
  have K := Keep.refl h0 [r0]
  show GolF _ _ _ _ _ _ _ s₁ m 0 #[.val (.ref r0)] []
  refine Gol.aloadN X0 hx hby d6_0 (pc' := 1) rfl rfl rfl ?_
  refine Gol.callI X0 hx hby hZ hown 0 [] (a := r0) (hw _ (List.mem_of_getElem? (i := 36) rfl)) (hw _ (List.mem_of_getElem? (i := 37) rfl)) (hw _ (List.mem_of_getElem? (i := 40) rfl)) rfl (hw _ (List.mem_of_getElem? (i := 41) rfl)) rfl (by decide) (rmAList l Z a0 hw [] r0 (.int (0 : Int32)) .null (.int (0 : Int32)) h0 n0 Zs ⟨E_r0, F_r0_modCount, F_r0_elementData, F_r0_size⟩ g_r0) (by decide) (by decide) eh0 (by rw [hml]; rfl) (rest := []) (Nat.le_of_eq rfl) (by decide) (by decide) (lenOf pd_0 rfl) rfl d6_1 (pc' := 4) rfl ?_
  intro T1 v1 L1 X1 hQ1
  obtain ⟨rfl, Nq1, Kq1, Oq1⟩ := hQ1
  have N1 := Fr.app N0 Nq1
  have E_r0 := E_r0.keep Kq1
  have K := K.trans Kq1 (allS (Or.inl (List.mem_of_getElem? (i := 0) rfl)) all0)
  have O := O.keep Kq1 (allS g_r0 all0)
  have Zs := Nat.le_trans Zs Kq1.1
  show GolF _ _ _ _ _ _ _ T1 m 4 #[.val (.ref r0)] []
  obtain ⟨E_r0, F_r0_modCount, F_r0_elementData, F_r0_size⟩ := Oq1
  refine Gol.aloadN X1 hx hby d6_4 (pc' := 5) rfl rfl rfl ?_
  refine Gol.getS X1 hx hby hZ hown (host := "") (Or.inl (hw _ (List.mem_of_getElem? (i := 51) rfl))) Via.refl rfl (S0.ext O.2) d6_5 (pc' := 8) rfl ?_
  intro T2 X2 e2
  refine Gol.putF X2 hx hby hZ hown (host := "") (Or.inl (hw _ (List.mem_of_getElem? (i := 52) rfl))) Via.refl e2 F_r0_elementData E_r0 (Or.inl (hw _ (List.mem_of_getElem? (i := 53) rfl))) (hw _ (List.mem_of_getElem? (i := 31) rfl)) (ty := (.array (.object "java/lang/Object"))) (by decide) rfl rfl d6_8 (pc' := 11) rfl ?_
  intro T3 h3 X3 e3 W3
  have E_r0 := E_r0.wr W3
  have F_r0_modCount := F_r0_modCount.other W3 (Or.inr (slot_ne (Or.inl (hw _ (List.mem_of_getElem? (i := 50) rfl))) (Or.inl (hw _ (List.mem_of_getElem? (i := 53) rfl))) (by decide) (t := .int) (t' := (.array (.object "java/lang/Object"))) (by decide) (by decide)))
  have F_r0_elementData := F_r0_elementData.same W3
  have F_r0_size := F_r0_size.other W3 (Or.inr (slot_ne (Or.inl (hw _ (List.mem_of_getElem? (i := 119) rfl))) (Or.inl (hw _ (List.mem_of_getElem? (i := 53) rfl))) (by decide) (t := .int) (t' := (.array (.object "java/lang/Object"))) (by decide) (by decide)))
  have K := K.wr W3 (Or.inl (List.mem_of_getElem? (i := 0) rfl))
  have O := O.wr W3 g_r0
  have Zs := Nat.le_trans Zs (Keep.of_wr W3).1
  have N3 := Fr.snoc X3 N1 g_r0
  exact Gol.ret0 X3 hx hby Bd.returns Bd.notSynchronized d6_11 e3 ⟨rfl, N3, K, ⟨E_r0, F_r0_modCount, F_r0_elementData, F_r0_size⟩⟩ (by decide) (by decide)
theorem d5_0 : decode prog_120_method_6_code 0 = .ok (.aload_n 0, 1) := by decide +kernel
theorem d5_1 : decode prog_120_method_6_code 1 = .ok (.new 23, 3) := by decide +kernel
theorem d5_4 : decode prog_120_method_6_code 4 = .ok (.dup, 1) := by decide +kernel
theorem d5_5 : decode prog_120_method_6_code 5 = .ok (.invokespecial 25, 3) := by decide +kernel
theorem d5_8 : decode prog_120_method_6_code 8 = .ok (.putfield 26, 3) := by decide +kernel
theorem d5_11 : decode prog_120_method_6_code 11 = .ok (.return_, 1) := by decide +kernel
theorem pn_5 : plainName "com/example/ballast/ballast/runtime/Outbox" = true := by first | (simp [plainName, overriddenIn]; done) | decide +kernel
theorem ef_5 (m : MethodId) (r0 : Addr) : entryFrame m #[(.ref r0)] 1 = mkF m 0 #[.val (.ref r0)] [] := by first | (simp [entryFrame, mkF, argsToLocals, Value.category]; done) | rfl
abbrev QHur (Z : State) (r0 : Addr) (v0 : Value) (v1 : Value) (v2 : Value) (v3 : Value) (e0 : Addr) (k0 : ClassId) (h0 : Heap) (n0 : Nat) (v : Option Value) (h : Heap) (L : List Loc) : Prop := v = none ∧ Fr n0 L ∧ Keep h0 h [r0] ∧ ∃ b : Addr, h0.size ≤ b ∧ Ob Z h r0 v0 v1 (.ref b) v3 ∧ Al Z h b (.int (0 : Int32)) (.ref e0) (.int (0 : Int32))
set_option maxRecDepth 65536 in
set_option maxHeartbeats 40000000 in
theorem rmHur (l : Launch) (Z : State) (a0 : Array Value) (hw : ∀ d ∈ tables_1, d.before a0 Z = true) (ws : List Jvm.Cond) (r0 : Addr) (v0 : Value) (v1 : Value) (v2 : Value) (v3 : Value) (e0 : Addr) (k0 : ClassId) (h0 : Heap) (n0 : Nat) (Z0 : n0 ≤ h0.size) (O0 : Ob Z h0 r0 v0 v1 v2 v3) (g_r0 : n0 ≤ r0) (S0 : Sta Z Z.heap "java/util/ArrayList" "DEFAULTCAPACITY_EMPTY_ELEMENTDATA" "[Ljava/lang/Object;" (.ref e0)) (V0 : Arv Z Z.heap e0 k0 (.object "java/lang/Object") (0 : Int32) [] .null) (O : Old Z n0 h0) :
    MetFree l (⟨"com/example/ballast/ballast/runtime/Outbox", "holdUntilReleased", "()V"⟩ : MethodName) (head1 (Jvm.Cond.code (⟨"com/example/ballast/ballast/runtime/Outbox", "holdUntilReleased", "()V"⟩ : MethodName) prog_120_method_6_code 1 none :: ws) ({ frames := 4, cells := 1, slots := 3, locals := 50 } : Room)) (fun a U => a = #[(.ref r0)] ∧ Z.Warmed39 U.vm ∧ U.heap = h0) (fun _ _ _ _ _ => True) (fun _ U o U' => ∃ v L, o = .returned v ∧ QHur Z r0 v0 v1 v2 v3 e0 k0 h0 n0 v U'.heap L ∧ FrameEnd U o U' L 1 3) := by
  refine MetFree.of_bodySF (plainFor_of_name pn_5) hisR ?_
  intro p ev s m args below meth c s₁ Bd hml0 hP hK
  obtain ⟨rfl, hZ, hh⟩ := hP
  have hx := Bd.exec
  have hby := Bd.bytes
  have hml : c.maxLocals = 1 := hml0
  have hown : s.vm.findClass "com/example/ballast/ballast/runtime/Outbox" = some m.cls := findClass_of_methodNamed Bd.named
  have hnm := (name_of_methodNamed Bd.named Bd.method).1
  have X0 : Stand p l ev ({ frames := 4, cells := 1, slots := 3, locals := 50 } : Room) s m #[(.ref r0)] below meth c s₁ [] 0 0 := Stand.of_body Bd
  have eh0 : s₁.heap = h0 := by rw [← hh, Bd.state]; rfl
  have N0 := Fr.nil n0
  have Zs := Z0
  show Gol p ev below (FrameEnd s) (QHur Z r0 v0 v1 v2 v3 e0 k0 h0 n0) 1 3 (s₁.setTop (entryFrame m #[(.ref r0)] 1))
  rw [ef_5]
  obtain ⟨E_r0, F_r0_lastSent, F_r0_awaitingFlush, F_r0_held, F_r0_deferredMove⟩ := O0
  have K := Keep.refl h0 [r0]
  show GolF _ _ _ _ _ _ _ s₁ m 0 #[.val (.ref r0)] []
  refine Gol.aloadN X0 hx hby d5_0 (pc' := 1) rfl rfl rfl ?_
  refine Gol.newO X0 hx hby hZ hown (hw _ (List.mem_of_getElem? (i := 30) rfl)) (hw _ (List.mem_of_getElem? (i := 31) rfl)) (hw _ (List.mem_of_getElem? (i := 32) rfl)) eh0 d5_1 (pc' := 4) rfl (by decide) (by decide) ?_
  intro T1 h1 b1 g1 X1 e1 E1 A1 D1
  have lo_r0_b1 : r0 < b1 := Nat.lt_of_lt_of_le E_r0.lt (Nat.le_of_eq g1.symm)
  have ne_r0_b1 : r0 ≠ b1 := Nat.ne_of_lt lo_r0_b1
  have g_b1 : n0 ≤ b1 := Nat.le_trans Zs (Nat.le_of_eq g1.symm)
  have sz_b1 : h0.size ≤ b1 := Nat.le_trans K.1 (Nat.le_of_eq g1.symm)
  have E_r0 := E_r0.ext E1
  have F_r0_lastSent := F_r0_lastSent.ext E1
  have F_r0_awaitingFlush := F_r0_awaitingFlush.ext E1
  have F_r0_held := F_r0_held.ext E1
  have F_r0_deferredMove := F_r0_deferredMove.ext E1
  have K := K.ext E1
  have O := O.ext E1
  have Zs := Nat.le_trans Zs E1.1
  have E_b1 := A1
  have F_b1_modCount : Fld Z h1 b1 "java/util/AbstractList" "modCount" "I" (.int (0 : Int32)) := D1 (Or.inl (hw _ (List.mem_of_getElem? (i := 50) rfl))) (ty := .int) (by decide)
  have F_b1_elementData : Fld Z h1 b1 "java/util/ArrayList" "elementData" "[Ljava/lang/Object;" .null := D1 (Or.inl (hw _ (List.mem_of_getElem? (i := 53) rfl))) (ty := (.array (.object "java/lang/Object"))) (by decide)
  have F_b1_size : Fld Z h1 b1 "java/util/ArrayList" "size" "I" (.int (0 : Int32)) := D1 (Or.inl (hw _ (List.mem_of_getElem? (i := 119) rfl))) (ty := .int) (by decide)
  refine Gol.dup X1 hx hby d5_4 (pc' := 5) rfl rfl ?_
  refine Gol.callI X1 hx hby hZ hown 2 [] (a := b1) (hw _ (List.mem_of_getElem? (i := 33) rfl)) (hw _ (List.mem_of_getElem? (i := 34) rfl)) (hw _ (List.mem_of_getElem? (i := 32) rfl)) rfl (hw _ (List.mem_of_getElem? (i := 35) rfl)) rfl (by decide) (rmLInit l Z a0 hw [] b1 e0 k0 h1 n0 Zs ⟨E_b1, F_b1_modCount, F_b1_elementData, F_b1_size⟩ g_b1 S0 V0 O) (by decide) (by decide) e1 (by rw [hml]; rfl) (rest := [(.ref b1), (.ref r0)]) (Nat.le_of_eq rfl) (by decide) (by decide) (lenOf pd_0 rfl) rfl d5_5 (pc' := 8) rfl ?_
  intro T2 v2 L2 X2 hQ2
  obtain ⟨rfl, Nq2, Kq2, Oq2⟩ := hQ2
  have N2 := Fr.app N0 Nq2
  have E_r0 := E_r0.keep Kq2
  have E_b1 := E_b1.keep Kq2
  have F_r0_lastSent := F_r0_lastSent.keep Kq2 (ninS ne_r0_b1 nin0)
  have F_r0_awaitingFlush := F_r0_awaitingFlush.keep Kq2 (ninS ne_r0_b1 nin0)
  have F_r0_held := F_r0_held.keep Kq2 (ninS ne_r0_b1 nin0)
  have F_r0_deferredMove := F_r0_deferredMove.keep Kq2 (ninS ne_r0_b1 nin0)
  have K := K.trans Kq2 (allS (Or.inr sz_b1) all0)
  have O := O.keep Kq2 (allS g_b1 all0)
  have Zs := Nat.le_trans Zs Kq2.1
  show GolF _ _ _ _ _ _ _ T2 m 8 #[.val (.ref r0)] [(.ref b1), (.ref r0)]
  obtain ⟨E_b1, F_b1_modCount, F_b1_elementData, F_b1_size⟩ := Oq2
  refine Gol.putF X2 hx hby hZ hown (host := "") (Or.inl (hw _ (List.mem_of_getElem? (i := 19) rfl))) Via.refl rfl F_r0_held E_r0 (Or.inl (hw _ (List.mem_of_getElem? (i := 20) rfl))) (hw _ (List.mem_of_getElem? (i := 1) rfl)) (ty := (.object "java/util/List")) (by decide) rfl rfl d5_8 (pc' := 11) rfl ?_
  intro T3 h3 X3 e3 W3
  have E_r0 := E_r0.wr W3
  have E_b1 := E_b1.wr W3
  have F_r0_lastSent := F_r0_lastSent.other W3 (Or.inr (slot_ne (Or.inl (hw _ (List.mem_of_getElem? (i := 11) rfl))) (Or.inl (hw _ (List.mem_of_getElem? (i := 20) rfl))) (by decide) (t := .long) (t' := (.object "java/util/List")) (by decide) (by decide)))
  have F_r0_awaitingFlush := F_r0_awaitingFlush.other W3 (Or.inr (slot_ne (Or.inl (hw _ (List.mem_of_getElem? (i := 80) rfl))) (Or.inl (hw _ (List.mem_of_getElem? (i := 20) rfl))) (by decide) (t := .boolean) (t' := (.object "java/util/List")) (by decide) (by decide)))
  have F_r0_held := F_r0_held.same W3
  have F_r0_deferredMove := F_r0_deferredMove.other W3 (Or.inr (slot_ne (Or.inl (hw _ (List.mem_of_getElem? (i := 13) rfl))) (Or.inl (hw _ (List.mem_of_getElem? (i := 20) rfl))) (by decide) (t := .int) (t' := (.object "java/util/List")) (by decide) (by decide)))
  have F_b1_modCount := F_b1_modCount.other W3 (Or.inl ne_r0_b1.symm)
  have F_b1_elementData := F_b1_elementData.other W3 (Or.inl ne_r0_b1.symm)
  have F_b1_size := F_b1_size.other W3 (Or.inl ne_r0_b1.symm)
  have K := K.wr W3 (Or.inl (List.mem_of_getElem? (i := 0) rfl))
  have O := O.wr W3 g_r0
  have Zs := Nat.le_trans Zs (Keep.of_wr W3).1
  have N3 := Fr.snoc X3 N2 g_r0
  exact Gol.ret0 X3 hx hby Bd.returns Bd.notSynchronized d5_11 e3 ⟨rfl, N3, K, b1, sz_b1, ⟨E_r0, F_r0_lastSent, F_r0_awaitingFlush, F_r0_held, F_r0_deferredMove⟩, ⟨E_b1, F_b1_modCount, F_b1_elementData, F_b1_size⟩⟩ (by decide) (by decide)
theorem d22_0 : decode jdk_29_method_65_code 0 = .ok (.iload_n 0, 1) := by decide +kernel
theorem d22_1 : decode jdk_29_method_65_code 1 = .ok (.iload_n 1, 1) := by decide +kernel
theorem d22_2 : decode jdk_29_method_65_code 2 = .ok (.if_icmp .lt 7, 3) := by decide +kernel
theorem d22_5 : decode jdk_29_method_65_code 5 = .ok (.iload_n 0, 1) := by decide +kernel
theorem d22_6 : decode jdk_29_method_65_code 6 = .ok (.goto 4, 3) := by decide +kernel
theorem d22_9 : decode jdk_29_method_65_code 9 = .ok (.iload_n 1, 1) := by decide +kernel
theorem d22_10 : decode jdk_29_method_65_code 10 = .ok (.ireturn, 1) := by decide +kernel
theorem ef_22 (m : MethodId) (p0 : Int32) (p1 : Int32) : entryFrame m #[(.int p0), (.int p1)] 2 = mkF m 0 #[.val (.int p0), .val (.int p1)] [] := by first | (simp [entryFrame, mkF, argsToLocals, Value.category]; done) | rfl
def f22 (p0 : Int32) (p1 : Int32) : Int32 :=
  if p0 < p1 then
    p1
  else
    p0
abbrev Q22 (Z : State) (p0 : Int32) (p1 : Int32) (h0 : Heap) (n0 : Nat) (v : Option Value) (h : Heap) (L : List Loc) : Prop := v = some (.int (f22 p0 p1)) ∧ Fr n0 L ∧ h = h0
set_option maxRecDepth 65536 in
set_option maxHeartbeats 40000000 in
theorem rm22 (l : Launch) (Z : State) (a0 : Array Value) (hw : ∀ d ∈ tables_1, d.before a0 Z = true) (ws : List Jvm.Cond) (p0 : Int32) (p1 : Int32) (h0 : Heap) (n0 : Nat) (Z0 : n0 ≤ h0.size) :
    MetFree l (⟨"java/lang/Math", "max", "(II)I"⟩ : MethodName) (head1 (Jvm.Cond.code (⟨"java/lang/Math", "max", "(II)I"⟩ : MethodName) jdk_29_method_65_code 2 (some .int) :: ws) ({ frames := 0, cells := 0, slots := 0, locals := 0 } : Room)) (fun a U => a = #[(.int p0), (.int p1)] ∧ Z.Warmed39 U.vm ∧ U.heap = h0) (fun _ _ _ _ _ => True) (fun _ U o U' => ∃ v L, o = .returned v ∧ Q22 Z p0 p1 h0 n0 v U'.heap L ∧ FrameEnd U o U' L 0 0) := by
  refine MetFree.of_bodySF (Jvm.Free.JP.mathPlain rfl (by decide +kernel)) hisR ?_
  intro p ev s m args below meth c s₁ Bd hml0 hP hK
  obtain ⟨rfl, hZ, hh⟩ := hP
  have hx := Bd.exec
  have hby := Bd.bytes
  have hml : c.maxLocals = 2 := hml0
  have hown : s.vm.findClass "java/lang/Math" = some m.cls := findClass_of_methodNamed Bd.named
  have hnm := (name_of_methodNamed Bd.named Bd.method).1
  have X0 : Stand p l ev ({ frames := 0, cells := 0, slots := 0, locals := 0 } : Room) s m #[(.int p0), (.int p1)] below meth c s₁ [] 0 0 := Stand.of_body Bd
  have eh0 : s₁.heap = h0 := by rw [← hh, Bd.state]; rfl
  have N0 := Fr.nil n0
  have Zs := Z0
  show Gol p ev below (FrameEnd s) (Q22 Z p0 p1 h0 n0) 0 0 (s₁.setTop (entryFrame m #[(.int p0), (.int p1)] 2))
  rw [ef_22]
  show GolF _ _ _ _ _ _ _ s₁ m 0 #[.val (.int p0), .val (.int p1)] []
  refine Gol.iloadN X0 hx hby d22_0 (pc' := 1) rfl rfl ?_
  refine Gol.iloadN X0 hx hby d22_1 (pc' := 2) rfl rfl ?_
  by_cases hc2_1 : p0 < p1
  · skip
    refine Gol.icmpYes X0 hx hby d22_2 (pc' := 9) (by decide) (tlt hc2_1).1 ?_
    refine Gol.iloadN X0 hx hby d22_9 (pc' := 10) rfl rfl ?_
    have hv2 : f22 p0 p1 = p1 := by
      unfold f22
      rw [if_pos hc2_1]
    exact Gol.retI X0 hx hby Bd.returns Bd.notSynchronized d22_10 eh0 ⟨congrArg (fun z => some (Value.int z)) (hv2.symm), N0, rfl⟩ (by decide) (by decide)
  · skip
    refine Gol.icmpNo X0 hx hby d22_2 (pc' := 5) rfl (flt hc2_1).1 ?_
    refine Gol.iloadN X0 hx hby d22_5 (pc' := 6) rfl rfl ?_
    refine Gol.goto X0 hx hby d22_6 (pc' := 10) (by decide) ?_
    have hv3 : f22 p0 p1 = p0 := by
      unfold f22
      rw [if_neg hc2_1]
    exact Gol.retI X0 hx hby Bd.returns Bd.notSynchronized d22_10 eh0 ⟨congrArg (fun z => some (Value.int z)) (hv3.symm), N0, rfl⟩ (by decide) (by decide)
theorem d21_0 : decode jdk_38_method_6_code 0 = .ok (.aload_n 0, 1) := by decide +kernel
theorem d21_1 : decode jdk_38_method_6_code 1 = .ok (.getfield 9, 3) := by decide +kernel
theorem d21_4 : decode jdk_38_method_6_code 4 = .ok (.arraylength, 1) := by decide +kernel
theorem d21_5 : decode jdk_38_method_6_code 5 = .ok (.istore_n 2, 1) := by decide +kernel
theorem d21_6 : decode jdk_38_method_6_code 6 = .ok (.iload_n 2, 1) := by decide +kernel
theorem d21_7 : decode jdk_38_method_6_code 7 = .ok (.ifCond .gt 13, 3) := by decide +kernel
theorem d21_10 : decode jdk_38_method_6_code 10 = .ok (.aload_n 0, 1) := by decide +kernel
theorem d21_11 : decode jdk_38_method_6_code 11 = .ok (.getfield 9, 3) := by decide +kernel
theorem d21_14 : decode jdk_38_method_6_code 14 = .ok (.getstatic 39, 3) := by decide +kernel
theorem d21_17 : decode jdk_38_method_6_code 17 = .ok (.if_acmp .eq 28, 3) := by decide +kernel
theorem d21_45 : decode jdk_38_method_6_code 45 = .ok (.aload_n 0, 1) := by decide +kernel
theorem d21_46 : decode jdk_38_method_6_code 46 = .ok (.bipush 10, 2) := by decide +kernel
theorem d21_48 : decode jdk_38_method_6_code 48 = .ok (.iload_n 1, 1) := by decide +kernel
theorem d21_49 : decode jdk_38_method_6_code 49 = .ok (.invokestatic 79, 3) := by decide +kernel
theorem d21_52 : decode jdk_38_method_6_code 52 = .ok (.anewarray 7, 3) := by decide +kernel
theorem d21_55 : decode jdk_38_method_6_code 55 = .ok (.dup_x1, 1) := by decide +kernel
theorem d21_56 : decode jdk_38_method_6_code 56 = .ok (.putfield 9, 3) := by decide +kernel
theorem d21_59 : decode jdk_38_method_6_code 59 = .ok (.areturn, 1) := by decide +kernel
theorem pn_21 : plainName "java/util/ArrayList" = true := by first | (simp [plainName, overriddenIn]; done) | decide +kernel
theorem ef_21 (m : MethodId) (r0 : Addr) (p1 : Int32) : entryFrame m #[(.ref r0), (.int p1)] 4 = mkF m 0 #[.val (.ref r0), .val (.int p1), .unset, .unset] [] := by first | (simp [entryFrame, mkF, argsToLocals, Value.category]; done) | rfl
abbrev QGrow1 (Z : State) (r0 : Addr) (p1 : Int32) (v0 : Value) (e0 : Addr) (k0 : ClassId) (h0 : Heap) (n0 : Nat) (v : Option Value) (h : Heap) (L : List Loc) : Prop := ∃ (b : Addr) (k : ClassId), v = some (.ref b) ∧ Fr n0 L ∧ Keep h0 h [r0] ∧ h0.size ≤ b ∧ Al Z h r0 v0 (.ref b) (.int (0 : Int32)) ∧ Arv Z h b k (.object "java/lang/Object") (10 : Int32) [.null, .null, .null, .null, .null, .null, .null, .null, .null, .null] .null ∧ Ovr Z k "java/lang/Object"
set_option maxRecDepth 65536 in
set_option maxHeartbeats 40000000 in
theorem rmGrow1 (l : Launch) (Z : State) (a0 : Array Value) (hw : ∀ d ∈ tables_1, d.before a0 Z = true) (ws : List Jvm.Cond) (r0 : Addr) (p1 : Int32) (v0 : Value) (e0 : Addr) (k0 : ClassId) (h0 : Heap) (n0 : Nat) (Z0 : n0 ≤ h0.size) (hp : p1 = (1 : Int32)) (O0 : Al Z h0 r0 v0 (.ref e0) (.int (0 : Int32))) (g_r0 : n0 ≤ r0) (S0 : Sta Z Z.heap "java/util/ArrayList" "DEFAULTCAPACITY_EMPTY_ELEMENTDATA" "[Ljava/lang/Object;" (.ref e0)) (V0 : Arv Z Z.heap e0 k0 (.object "java/lang/Object") (0 : Int32) [] .null) (O : Old Z n0 h0) :
    MetFree l (⟨"java/util/ArrayList", "grow", "(I)[Ljava/lang/Object;"⟩ : MethodName) (head1 (Jvm.Cond.code (⟨"java/util/ArrayList", "grow", "(I)[Ljava/lang/Object;"⟩ : MethodName) jdk_38_method_6_code 4 (some (.array (.object "java/lang/Object"))) :: ws) ({ frames := 1, cells := 1, slots := 10, locals := 14 } : Room)) (fun a U => a = #[(.ref r0), (.int p1)] ∧ Z.Warmed39 U.vm ∧ U.heap = h0) (fun _ _ _ _ _ => True) (fun _ U o U' => ∃ v L, o = .returned v ∧ QGrow1 Z r0 p1 v0 e0 k0 h0 n0 v U'.heap L ∧ FrameEnd U o U' L 1 10) := by
  refine MetFree.of_bodySF (plainFor_of_name pn_21) hisR ?_
  intro p ev s m args below meth c s₁ Bd hml0 hP hK
  obtain ⟨rfl, hZ, hh⟩ := hP
  have hx := Bd.exec
  have hby := Bd.bytes
  have hml : c.maxLocals = 4 := hml0
  have hown : s.vm.findClass "java/util/ArrayList" = some m.cls := findClass_of_methodNamed Bd.named
  have hnm := (name_of_methodNamed Bd.named Bd.method).1
  have X0 : Stand p l ev ({ frames := 1, cells := 1, slots := 10, locals := 14 } : Room) s m #[(.ref r0), (.int p1)] below meth c s₁ [] 0 0 := Stand.of_body Bd
  have eh0 : s₁.heap = h0 := by rw [← hh, Bd.state]; rfl
  have N0 := Fr.nil n0
  have Zs := Z0
  show Gol p ev below (FrameEnd s) (QGrow1 Z r0 p1 v0 e0 k0 h0 n0) 1 10 (s₁.setTop (entryFrame m #[(.ref r0), (.int p1)] 4))
  rw [ef_21]
  subst hp
  obtain ⟨E_r0, F_r0_modCount, F_r0_elementData, F_r0_size⟩ := O0
  have V_e0 := V0.ext O.2
  have ne_e0_r0 : e0 ≠ r0 := Old.ne O V0.lt g_r0
  have K := Keep.refl h0 [r0]
  show GolF _ _ _ _ _ _ _ s₁ m 0 #[.val (.ref r0), .val (.int (1 : Int32)), .unset, .unset] []
  refine Gol.aloadN X0 hx hby d21_0 (pc' := 1) rfl rfl rfl ?_
  refine Gol.getF X0 hx hby hZ hown (host := "") (Or.inl (hw _ (List.mem_of_getElem? (i := 52) rfl))) Via.refl eh0 F_r0_elementData d21_1 (pc' := 4) rfl ?_
  intro T1 X1 e1
  refine Gol.alen X1 hx hby hZ e1 V_e0 d21_4 (pc' := 5) rfl ?_
  refine Gol.istoreN X1 hx hby d21_5 (pc' := 6) rfl (l' := #[.val (.ref r0), .val (.int (1 : Int32)), .val (.int (0 : Int32)), .unset]) rfl ?_
  refine Gol.iloadN X1 hx hby d21_6 (pc' := 7) rfl rfl ?_
  refine Gol.ifNo X1 hx hby d21_7 (pc' := 10) rfl ((if0 _ _).trans (flt (by decide : ¬ ((0 : Int32) < (0 : Int32)))).2.2.1) ?_
  refine Gol.aloadN X1 hx hby d21_10 (pc' := 11) rfl rfl rfl ?_
  refine Gol.getF X1 hx hby hZ hown (host := "") (Or.inl (hw _ (List.mem_of_getElem? (i := 52) rfl))) Via.refl e1 F_r0_elementData d21_11 (pc' := 14) rfl ?_
  intro T2 X2 e2
  refine Gol.getS X2 hx hby hZ hown (host := "") (Or.inl (hw _ (List.mem_of_getElem? (i := 51) rfl))) Via.refl e2 (S0.ext O.2) d21_14 (pc' := 17) rfl ?_
  intro T3 X3 e3
  refine Gol.acmp X3 hx hby (pc' := 45) true d21_17 rfl rfl (decide_eq_true rfl) (by decide) (by decide) ?_
  refine Gol.aloadN X3 hx hby d21_45 (pc' := 46) rfl rfl rfl ?_
  refine Gol.bipush X3 hx hby d21_46 (pc' := 48) rfl (z := (10 : Int32)) rfl ?_
  refine Gol.iloadN X3 hx hby d21_48 (pc' := 49) rfl rfl ?_
  refine Gol.callS X3 hx hby hZ hown 1 [(.int (10 : Int32)), (.int (1 : Int32))] (hw _ (List.mem_of_getElem? (i := 135) rfl)) (hw _ (List.mem_of_getElem? (i := 136) rfl)) (hw _ (List.mem_of_getElem? (i := 137) rfl)) (hw _ (List.mem_of_getElem? (i := 138) rfl)) (by decide) (rm22 l Z a0 hw [] (10 : Int32) (1 : Int32)  h0 n0 Zs ) (by decide) (by decide) e3 (by rw [hml]; rfl) (rest := [(.ref r0)]) (Nat.le_of_eq rfl) (by decide) (by decide) (lenOf pd_1 rfl) rfl d21_49 (pc' := 52) rfl ?_
  intro T4 v4 L4 X4 hQ4
  obtain ⟨rfl, Nq4, eq4⟩ := hQ4
  have N4 := Fr.app N0 Nq4
  show GolF _ _ _ _ _ _ _ T4 m 52 #[.val (.ref r0), .val (.int (1 : Int32)), .val (.int (0 : Int32)), .unset] [(.int (f22 (10 : Int32) (1 : Int32) )), (.ref r0)]
  show GolF _ _ _ _ _ _ _ T4 m 52 #[.val (.ref r0), .val (.int (1 : Int32)), .val (.int (0 : Int32)), .unset] [(.int (10 : Int32)), (.ref r0)]
  refine Gol.newref X4 hx hby hZ hown (hw _ (List.mem_of_getElem? (i := 139) rfl)) (hw _ (List.mem_of_getElem? (i := 140) rfl)) eq4 10 d21_52 (pc' := 55) rfl (by decide) (by decide) (by decide) (by decide) (by decide) ?_
  intro T5 h5 k5 b5 g5 X5 e5 E5 A5 O5
  have lo_r0_b5 : r0 < b5 := Nat.lt_of_lt_of_le E_r0.lt (Nat.le_of_eq g5.symm)
  have ne_r0_b5 : r0 ≠ b5 := Nat.ne_of_lt lo_r0_b5
  have lo_e0_b5 : e0 < b5 := Nat.lt_of_lt_of_le V_e0.lt (Nat.le_of_eq g5.symm)
  have ne_e0_b5 : e0 ≠ b5 := Nat.ne_of_lt lo_e0_b5
  have g_b5 : n0 ≤ b5 := Nat.le_trans Zs (Nat.le_of_eq g5.symm)
  have sz_b5 : h0.size ≤ b5 := Nat.le_trans K.1 (Nat.le_of_eq g5.symm)
  have E_r0 := E_r0.ext E5
  have F_r0_modCount := F_r0_modCount.ext E5
  have F_r0_elementData := F_r0_elementData.ext E5
  have F_r0_size := F_r0_size.ext E5
  have V_e0 := V_e0.ext E5
  have K := K.ext E5
  have O := O.ext E5
  have Zs := Nat.le_trans Zs E5.1
  have V_b5 : Arv Z h5 b5 k5 (.object "java/lang/Object") (10 : Int32) [.null, .null, .null, .null, .null, .null, .null, .null, .null, .null] .null := A5.pad (pad_rep [] .null 10)
  refine Gol.dupX1 X5 hx hby d21_55 (pc' := 56) rfl rfl rfl ?_
  refine Gol.putF X5 hx hby hZ hown (host := "") (Or.inl (hw _ (List.mem_of_getElem? (i := 52) rfl))) Via.refl e5 F_r0_elementData E_r0 (Or.inl (hw _ (List.mem_of_getElem? (i := 53) rfl))) (hw _ (List.mem_of_getElem? (i := 31) rfl)) (ty := (.array (.object "java/lang/Object"))) (by decide) rfl rfl d21_56 (pc' := 59) rfl ?_
  intro T6 h6 X6 e6 W6
  have E_r0 := E_r0.wr W6
  have F_r0_modCount := F_r0_modCount.other W6 (Or.inr (slot_ne (Or.inl (hw _ (List.mem_of_getElem? (i := 50) rfl))) (Or.inl (hw _ (List.mem_of_getElem? (i := 53) rfl))) (by decide) (t := .int) (t' := (.array (.object "java/lang/Object"))) (by decide) (by decide)))
  have F_r0_elementData := F_r0_elementData.same W6
  have F_r0_size := F_r0_size.other W6 (Or.inr (slot_ne (Or.inl (hw _ (List.mem_of_getElem? (i := 119) rfl))) (Or.inl (hw _ (List.mem_of_getElem? (i := 53) rfl))) (by decide) (t := .int) (t' := (.array (.object "java/lang/Object"))) (by decide) (by decide)))
  have V_e0 := V_e0.other W6 ne_e0_r0
  have V_b5 := V_b5.other W6 ne_r0_b5.symm
  have K := K.wr W6 (Or.inl (List.mem_of_getElem? (i := 0) rfl))
  have O := O.wr W6 g_r0
  have Zs := Nat.le_trans Zs (Keep.of_wr W6).1
  have N6 := Fr.snoc X6 N4 g_r0
  exact Gol.retA X6 hx hby Bd.returns rfl rfl Bd.notSynchronized d21_59 e6 ⟨b5, k5, rfl, N6, K, sz_b5, ⟨E_r0, F_r0_modCount, F_r0_elementData, F_r0_size⟩, V_b5, O5⟩ (by decide) (by decide)
theorem d20_0 : decode jdk_38_method_7_code 0 = .ok (.aload_n 0, 1) := by decide +kernel
theorem d20_1 : decode jdk_38_method_7_code 1 = .ok (.aload_n 0, 1) := by decide +kernel
theorem d20_2 : decode jdk_38_method_7_code 2 = .ok (.getfield 48, 3) := by decide +kernel
theorem d20_5 : decode jdk_38_method_7_code 5 = .ok (.iconst 1, 1) := by decide +kernel
theorem d20_6 : decode jdk_38_method_7_code 6 = .ok (.iadd, 1) := by decide +kernel
theorem d20_7 : decode jdk_38_method_7_code 7 = .ok (.invokevirtual 69, 3) := by decide +kernel
theorem d20_10 : decode jdk_38_method_7_code 10 = .ok (.areturn, 1) := by decide +kernel
theorem pn_20 : plainName "java/util/ArrayList" = true := by first | (simp [plainName, overriddenIn]; done) | decide +kernel
theorem ef_20 (m : MethodId) (r0 : Addr) : entryFrame m #[(.ref r0)] 1 = mkF m 0 #[.val (.ref r0)] [] := by first | (simp [entryFrame, mkF, argsToLocals, Value.category]; done) | rfl
abbrev QGrow0 (Z : State) (r0 : Addr) (v0 : Value) (e0 : Addr) (k0 : ClassId) (h0 : Heap) (n0 : Nat) (v : Option Value) (h : Heap) (L : List Loc) : Prop := ∃ (b : Addr) (k : ClassId), v = some (.ref b) ∧ Fr n0 L ∧ Keep h0 h [r0] ∧ h0.size ≤ b ∧ Al Z h r0 v0 (.ref b) (.int (0 : Int32)) ∧ Arv Z h b k (.object "java/lang/Object") (10 : Int32) [.null, .null, .null, .null, .null, .null, .null, .null, .null, .null] .null ∧ Ovr Z k "java/lang/Object"
set_option maxRecDepth 65536 in
set_option maxHeartbeats 40000000 in
theorem rmGrow0 (l : Launch) (Z : State) (a0 : Array Value) (hw : ∀ d ∈ tables_1, d.before a0 Z = true) (ws : List Jvm.Cond) (r0 : Addr) (v0 : Value) (e0 : Addr) (k0 : ClassId) (h0 : Heap) (n0 : Nat) (Z0 : n0 ≤ h0.size) (O0 : Al Z h0 r0 v0 (.ref e0) (.int (0 : Int32))) (g_r0 : n0 ≤ r0) (S0 : Sta Z Z.heap "java/util/ArrayList" "DEFAULTCAPACITY_EMPTY_ELEMENTDATA" "[Ljava/lang/Object;" (.ref e0)) (V0 : Arv Z Z.heap e0 k0 (.object "java/lang/Object") (0 : Int32) [] .null) (O : Old Z n0 h0) :
    MetFree l (⟨"java/util/ArrayList", "grow", "()[Ljava/lang/Object;"⟩ : MethodName) (head1 (Jvm.Cond.code (⟨"java/util/ArrayList", "grow", "()[Ljava/lang/Object;"⟩ : MethodName) jdk_38_method_7_code 1 (some (.array (.object "java/lang/Object"))) :: ws) ({ frames := 2, cells := 1, slots := 10, locals := 29 } : Room)) (fun a U => a = #[(.ref r0)] ∧ Z.Warmed39 U.vm ∧ U.heap = h0) (fun _ _ _ _ _ => True) (fun _ U o U' => ∃ v L, o = .returned v ∧ QGrow0 Z r0 v0 e0 k0 h0 n0 v U'.heap L ∧ FrameEnd U o U' L 1 10) := by
  refine MetFree.of_bodySF (plainFor_of_name pn_20) hisR ?_
  intro p ev s m args below meth c s₁ Bd hml0 hP hK
  obtain ⟨rfl, hZ, hh⟩ := hP
  have hx := Bd.exec
  have hby := Bd.bytes
  have hml : c.maxLocals = 1 := hml0
  have hown : s.vm.findClass "java/util/ArrayList" = some m.cls := findClass_of_methodNamed Bd.named
  have hnm := (name_of_methodNamed Bd.named Bd.method).1
  have X0 : Stand p l ev ({ frames := 2, cells := 1, slots := 10, locals := 29 } : Room) s m #[(.ref r0)] below meth c s₁ [] 0 0 := Stand.of_body Bd
  have eh0 : s₁.heap = h0 := by rw [← hh, Bd.state]; rfl
  have N0 := Fr.nil n0
  have Zs := Z0
  show Gol p ev below (FrameEnd s) (QGrow0 Z r0 v0 e0 k0 h0 n0) 1 10 (s₁.setTop (entryFrame m #[(.ref r0)] 1))
  rw [ef_20]
  obtain ⟨E_r0, F_r0_modCount, F_r0_elementData, F_r0_size⟩ := O0
  have K := Keep.refl h0 [r0]
  show GolF _ _ _ _ _ _ _ s₁ m 0 #[.val (.ref r0)] []
  refine Gol.aloadN X0 hx hby d20_0 (pc' := 1) rfl rfl rfl ?_
  refine Gol.aloadN X0 hx hby d20_1 (pc' := 2) rfl rfl rfl ?_
  refine Gol.getF X0 hx hby hZ hown (host := "") (Or.inl (hw _ (List.mem_of_getElem? (i := 118) rfl))) Via.refl eh0 F_r0_size d20_2 (pc' := 5) rfl ?_
  intro T1 X1 e1
  refine Gol.iconst X1 hx hby d20_5 (pc' := 6) rfl (z := (1 : Int32)) rfl ?_
  refine Gol.iadd X1 hx hby d20_6 (pc' := 7) rfl (z := (1 : Int32)) rfl ?_
  refine Gol.callP X1 hx hby hZ hown 0 [(.int (1 : Int32))] (a := r0) (hw _ (List.mem_of_getElem? (i := 130) rfl)) (hw _ (List.mem_of_getElem? (i := 131) rfl)) (hw _ (List.mem_of_getElem? (i := 133) rfl)) (hw _ (List.mem_of_getElem? (i := 132) rfl)) (hw _ (List.mem_of_getElem? (i := 32) rfl)) (hw _ (List.mem_of_getElem? (i := 134) rfl)) (by decide) E_r0 (rmGrow1 l Z a0 hw [] r0 (1 : Int32) v0 e0 k0 h0 n0 Zs rfl ⟨E_r0, F_r0_modCount, F_r0_elementData, F_r0_size⟩ g_r0 S0 V0 O) (by decide) (by decide) e1 (by rw [hml]; rfl) (rest := []) (Nat.le_of_eq rfl) (by decide) (by decide) (lenOf pd_2 rfl) rfl d20_7 (pc' := 10) rfl ?_
  intro T2 v2 L2 X2 hQ2
  obtain ⟨b2, kb2, rfl, Nq2, Kq2, hb2, Oq2, V_b2, Ov2⟩ := hQ2
  have N2 := Fr.app N0 Nq2
  have lo_r0_b2 : r0 < b2 := Nat.lt_of_lt_of_le E_r0.lt hb2
  have ne_r0_b2 : r0 ≠ b2 := Nat.ne_of_lt lo_r0_b2
  have g_b2 : n0 ≤ b2 := Nat.le_trans Zs hb2
  have sz_b2 : h0.size ≤ b2 := Nat.le_trans K.1 hb2
  have E_r0 := E_r0.keep Kq2
  have K := K.trans Kq2 (allS (Or.inl (List.mem_of_getElem? (i := 0) rfl)) all0)
  have O := O.keep Kq2 (allS g_r0 all0)
  have Zs := Nat.le_trans Zs Kq2.1
  show GolF _ _ _ _ _ _ _ T2 m 10 #[.val (.ref r0)] [(.ref b2)]
  obtain ⟨E_r0, F_r0_modCount, F_r0_elementData, F_r0_size⟩ := Oq2
  exact Gol.retA X2 hx hby Bd.returns rfl rfl Bd.notSynchronized d20_10 rfl ⟨b2, kb2, rfl, N2, K, sz_b2, ⟨E_r0, F_r0_modCount, F_r0_elementData, F_r0_size⟩, V_b2, Ov2⟩ (by decide) (by decide)
theorem d19_0 : decode jdk_38_method_24_code 0 = .ok (.iload_n 3, 1) := by decide +kernel
theorem d19_1 : decode jdk_38_method_24_code 1 = .ok (.aload_n 2, 1) := by decide +kernel
theorem d19_2 : decode jdk_38_method_24_code 2 = .ok (.arraylength, 1) := by decide +kernel
theorem d19_3 : decode jdk_38_method_24_code 3 = .ok (.if_icmp .ne 8, 3) := by decide +kernel
theorem d19_6 : decode jdk_38_method_24_code 6 = .ok (.aload_n 0, 1) := by decide +kernel
theorem d19_7 : decode jdk_38_method_24_code 7 = .ok (.invokevirtual 129, 3) := by decide +kernel
theorem d19_10 : decode jdk_38_method_24_code 10 = .ok (.astore_n 2, 1) := by decide +kernel
theorem d19_11 : decode jdk_38_method_24_code 11 = .ok (.aload_n 2, 1) := by decide +kernel
theorem d19_12 : decode jdk_38_method_24_code 12 = .ok (.iload_n 3, 1) := by decide +kernel
theorem d19_13 : decode jdk_38_method_24_code 13 = .ok (.aload_n 1, 1) := by decide +kernel
theorem d19_14 : decode jdk_38_method_24_code 14 = .ok (.aastore, 1) := by decide +kernel
theorem d19_15 : decode jdk_38_method_24_code 15 = .ok (.aload_n 0, 1) := by decide +kernel
theorem d19_16 : decode jdk_38_method_24_code 16 = .ok (.iload_n 3, 1) := by decide +kernel
theorem d19_17 : decode jdk_38_method_24_code 17 = .ok (.iconst 1, 1) := by decide +kernel
theorem d19_18 : decode jdk_38_method_24_code 18 = .ok (.iadd, 1) := by decide +kernel
theorem d19_19 : decode jdk_38_method_24_code 19 = .ok (.putfield 48, 3) := by decide +kernel
theorem d19_22 : decode jdk_38_method_24_code 22 = .ok (.return_, 1) := by decide +kernel
theorem pn_19 : plainName "java/util/ArrayList" = true := by first | (simp [plainName, overriddenIn]; done) | decide +kernel
theorem ef_19 (m : MethodId) (r0 : Addr) (r1 : Addr) (r2 : Addr) (p3 : Int32) : entryFrame m #[(.ref r0), (.ref r1), (.ref r2), (.int p3)] 4 = mkF m 0 #[.val (.ref r0), .val (.ref r1), .val (.ref r2), .val (.int p3)] [] := by first | (simp [entryFrame, mkF, argsToLocals, Value.category]; done) | rfl
abbrev QAdd3A (Z : State) (r0 : Addr) (r1 : Addr) (r2 : Addr) (p3 : Int32) (mo : Int32) (e0 : Addr) (k0 : ClassId) (h0 : Heap) (n0 : Nat) (v : Option Value) (h : Heap) (L : List Loc) : Prop := v = none ∧ Fr n0 L ∧ Keep h0 h [r0] ∧ ∃ (mz : Int32) (e : Addr) (k : ClassId) (vs : List Value), h0.size ≤ e ∧ vs.length = 10 ∧ Al Z h r0 (.int mz) (.ref e) (.int (Int32.ofNat 1)) ∧ Arv Z h e k (.object "java/lang/Object") (10 : Int32) vs .null ∧ Ovr Z k "java/lang/Object" ∧ vs.getD 0 .null = (.ref r1)
set_option maxRecDepth 65536 in
set_option maxHeartbeats 40000000 in
theorem rmAdd3A (l : Launch) (Z : State) (a0 : Array Value) (hw : ∀ d ∈ tables_1, d.before a0 Z = true) (ws : List Jvm.Cond) (r0 : Addr) (r1 : Addr) (r2 : Addr) (p3 : Int32) (mo : Int32) (e0 : Addr) (k0 : ClassId) (h0 : Heap) (n0 : Nat) (Z0 : n0 ≤ h0.size) (hp2 : e0 = r2) (hp3 : p3 = (0 : Int32)) (O0 : Al Z h0 r0 (.int mo) (.ref e0) (.int (0 : Int32))) (E_r1 : Exa Z h0 r1 "com/example/ballast/ballast/runtime/Outbox$Held") (ne_r0_r1 : r0 ≠ r1) (g_r0 : n0 ≤ r0) (g_r1 : n0 ≤ r1) (S0 : Sta Z Z.heap "java/util/ArrayList" "DEFAULTCAPACITY_EMPTY_ELEMENTDATA" "[Ljava/lang/Object;" (.ref e0)) (V0 : Arv Z Z.heap e0 k0 (.object "java/lang/Object") (0 : Int32) [] .null) (O : Old Z n0 h0) :
    MetFree l (⟨"java/util/ArrayList", "add", "(Ljava/lang/Object;[Ljava/lang/Object;I)V"⟩ : MethodName) (head1 (Jvm.Cond.code (⟨"java/util/ArrayList", "add", "(Ljava/lang/Object;[Ljava/lang/Object;I)V"⟩ : MethodName) jdk_38_method_24_code 4 none :: ws) ({ frames := 3, cells := 1, slots := 10, locals := 41 } : Room)) (fun a U => a = #[(.ref r0), (.ref r1), (.ref r2), (.int p3)] ∧ Z.Warmed39 U.vm ∧ U.heap = h0) (fun _ _ _ _ _ => True) (fun _ U o U' => ∃ v L, o = .returned v ∧ QAdd3A Z r0 r1 r2 p3 mo e0 k0 h0 n0 v U'.heap L ∧ FrameEnd U o U' L 1 10) := by
  refine MetFree.of_bodySF (plainFor_of_name pn_19) hisR ?_
  intro p ev s m args below meth c s₁ Bd hml0 hP hK
  obtain ⟨rfl, hZ, hh⟩ := hP
  have hx := Bd.exec
  have hby := Bd.bytes
  have hml : c.maxLocals = 4 := hml0
  have hown : s.vm.findClass "java/util/ArrayList" = some m.cls := findClass_of_methodNamed Bd.named
  have hnm := (name_of_methodNamed Bd.named Bd.method).1
  have X0 : Stand p l ev ({ frames := 3, cells := 1, slots := 10, locals := 41 } : Room) s m #[(.ref r0), (.ref r1), (.ref r2), (.int p3)] below meth c s₁ [] 0 0 := Stand.of_body Bd
  have eh0 : s₁.heap = h0 := by rw [← hh, Bd.state]; rfl
  have N0 := Fr.nil n0
  have Zs := Z0
  show Gol p ev below (FrameEnd s) (QAdd3A Z r0 r1 r2 p3 mo e0 k0 h0 n0) 1 10 (s₁.setTop (entryFrame m #[(.ref r0), (.ref r1), (.ref r2), (.int p3)] 4))
  rw [ef_19]
  subst hp2
  subst hp3
  obtain ⟨E_r0, F_r0_modCount, F_r0_elementData, F_r0_size⟩ := O0
  have V_e0 := V0.ext O.2
  have ne_e0_r0 : e0 ≠ r0 := Old.ne O V0.lt g_r0
  have ne_e0_r1 : e0 ≠ r1 := Old.ne O V0.lt g_r1
  have K := Keep.refl h0 [r0]
  show GolF _ _ _ _ _ _ _ s₁ m 0 #[.val (.ref r0), .val (.ref r1), .val (.ref e0), .val (.int (0 : Int32))] []
  refine Gol.iloadN X0 hx hby d19_0 (pc' := 1) rfl rfl ?_
  refine Gol.aloadN X0 hx hby d19_1 (pc' := 2) rfl rfl rfl ?_
  refine Gol.alen X0 hx hby hZ eh0 V_e0 d19_2 (pc' := 3) rfl ?_
  refine Gol.icmpNo X0 hx hby d19_3 (pc' := 6) rfl (teq (by decide : (0 : Int32) = (0 : Int32))).2 ?_
  refine Gol.aloadN X0 hx hby d19_6 (pc' := 7) rfl rfl rfl ?_
  refine Gol.callP X0 hx hby hZ hown 0 [] (a := r0) (hw _ (List.mem_of_getElem? (i := 125) rfl)) (hw _ (List.mem_of_getElem? (i := 126) rfl)) (hw _ (List.mem_of_getElem? (i := 128) rfl)) (hw _ (List.mem_of_getElem? (i := 127) rfl)) (hw _ (List.mem_of_getElem? (i := 32) rfl)) (hw _ (List.mem_of_getElem? (i := 129) rfl)) (by decide) E_r0 (rmGrow0 l Z a0 hw [] r0 (.int mo) e0 k0 h0 n0 Zs ⟨E_r0, F_r0_modCount, F_r0_elementData, F_r0_size⟩ g_r0 S0 V0 O) (by decide) (by decide) eh0 (by rw [hml]; rfl) (rest := []) (Nat.le_of_eq rfl) (by decide) (by decide) (lenOf pd_3 rfl) rfl d19_7 (pc' := 10) rfl ?_
  intro T1 v1 L1 X1 hQ1
  obtain ⟨b1, kb1, rfl, Nq1, Kq1, hb1, Oq1, V_b1, Ov1⟩ := hQ1
  have N1 := Fr.app N0 Nq1
  have lo_r0_b1 : r0 < b1 := Nat.lt_of_lt_of_le E_r0.lt hb1
  have ne_r0_b1 : r0 ≠ b1 := Nat.ne_of_lt lo_r0_b1
  have lo_r1_b1 : r1 < b1 := Nat.lt_of_lt_of_le E_r1.lt hb1
  have ne_r1_b1 : r1 ≠ b1 := Nat.ne_of_lt lo_r1_b1
  have lo_e0_b1 : e0 < b1 := Nat.lt_of_lt_of_le V_e0.lt hb1
  have ne_e0_b1 : e0 ≠ b1 := Nat.ne_of_lt lo_e0_b1
  have g_b1 : n0 ≤ b1 := Nat.le_trans Zs hb1
  have sz_b1 : h0.size ≤ b1 := Nat.le_trans K.1 hb1
  have E_r0 := E_r0.keep Kq1
  have E_r1 := E_r1.keep Kq1
  have V_e0 := V_e0.keep Kq1 (ninS ne_e0_r0 nin0)
  have K := K.trans Kq1 (allS (Or.inl (List.mem_of_getElem? (i := 0) rfl)) all0)
  have O := O.keep Kq1 (allS g_r0 all0)
  have Zs := Nat.le_trans Zs Kq1.1
  show GolF _ _ _ _ _ _ _ T1 m 10 #[.val (.ref r0), .val (.ref r1), .val (.ref e0), .val (.int (0 : Int32))] [(.ref b1)]
  obtain ⟨E_r0, F_r0_modCount, F_r0_elementData, F_r0_size⟩ := Oq1
  refine Gol.astoreN X1 hx hby d19_10 (pc' := 11) rfl rfl (l' := #[.val (.ref r0), .val (.ref r1), .val (.ref b1), .val (.int (0 : Int32))]) rfl ?_
  refine Gol.aloadN X1 hx hby d19_11 (pc' := 12) rfl rfl rfl ?_
  refine Gol.iloadN X1 hx hby d19_12 (pc' := 13) rfl rfl ?_
  refine Gol.aloadN X1 hx hby d19_13 (pc' := 14) rfl rfl rfl ?_
  refine Gol.aastore X1 hx hby hZ rfl V_b1 d19_14 (pc' := 15) rfl ⟨by decide, by decide⟩ 0 rfl (Nat.le_of_ble_eq_true rfl) rfl rfl (fun _ Ar q => Sto.ofV Ar q Ov1 (Ins.of_exa E_r1 (hw _ (List.mem_of_getElem? (i := 141) rfl)))) ?_
  intro T2 h2 X2 e2 W2 A2
  have V_b1 : Arv Z h2 b1 kb1 (.object "java/lang/Object") (10 : Int32) [(.ref r1), .null, .null, .null, .null, .null, .null, .null, .null, .null] .null := A2
  have E_r0 := E_r0.wr W2
  have E_r1 := E_r1.wr W2
  have F_r0_modCount := F_r0_modCount.other W2 (Or.inl ne_r0_b1)
  have F_r0_elementData := F_r0_elementData.other W2 (Or.inl ne_r0_b1)
  have F_r0_size := F_r0_size.other W2 (Or.inl ne_r0_b1)
  have V_e0 := V_e0.other W2 ne_e0_b1
  have K := K.wr W2 (Or.inr sz_b1)
  have O := O.wr W2 g_b1
  have Zs := Nat.le_trans Zs (Keep.of_wr W2).1
  have N2 := Fr.snoc X2 N1 g_b1
  refine Gol.aloadN X2 hx hby d19_15 (pc' := 16) rfl rfl rfl ?_
  refine Gol.iloadN X2 hx hby d19_16 (pc' := 17) rfl rfl ?_
  refine Gol.iconst X2 hx hby d19_17 (pc' := 18) rfl (z := (1 : Int32)) rfl ?_
  refine Gol.iadd X2 hx hby d19_18 (pc' := 19) rfl (z := (1 : Int32)) rfl ?_
  refine Gol.putF X2 hx hby hZ hown (host := "") (Or.inl (hw _ (List.mem_of_getElem? (i := 118) rfl))) Via.refl e2 F_r0_size E_r0 (Or.inl (hw _ (List.mem_of_getElem? (i := 119) rfl))) (hw _ (List.mem_of_getElem? (i := 31) rfl)) (ty := .int) (by decide) rfl rfl d19_19 (pc' := 22) rfl ?_
  intro T3 h3 X3 e3 W3
  have E_r0 := E_r0.wr W3
  have E_r1 := E_r1.wr W3
  have F_r0_modCount := F_r0_modCount.other W3 (Or.inr (slot_ne (Or.inl (hw _ (List.mem_of_getElem? (i := 50) rfl))) (Or.inl (hw _ (List.mem_of_getElem? (i := 119) rfl))) (by decide) (t := .int) (t' := .int) (by decide) (by decide)))
  have F_r0_elementData := F_r0_elementData.other W3 (Or.inr (slot_ne (Or.inl (hw _ (List.mem_of_getElem? (i := 53) rfl))) (Or.inl (hw _ (List.mem_of_getElem? (i := 119) rfl))) (by decide) (t := (.array (.object "java/lang/Object"))) (t' := .int) (by decide) (by decide)))
  have F_r0_size := F_r0_size.same W3
  have V_e0 := V_e0.other W3 ne_e0_r0
  have V_b1 := V_b1.other W3 ne_r0_b1.symm
  have K := K.wr W3 (Or.inl (List.mem_of_getElem? (i := 0) rfl))
  have O := O.wr W3 g_r0
  have Zs := Nat.le_trans Zs (Keep.of_wr W3).1
  have N3 := Fr.snoc X3 N2 g_r0
  exact Gol.ret0 X3 hx hby Bd.returns Bd.notSynchronized d19_22 e3 ⟨rfl, N3, K, mo, b1, kb1, [(.ref r1), .null, .null, .null, .null, .null, .null, .null, .null, .null], sz_b1, rfl, ⟨E_r0, F_r0_modCount, F_r0_elementData, F_r0_size⟩, V_b1, Ov1, rfl⟩ (by decide) (by decide)
theorem d18_0 : decode jdk_38_method_25_code 0 = .ok (.aload_n 0, 1) := by decide +kernel
theorem d18_1 : decode jdk_38_method_25_code 1 = .ok (.dup, 1) := by decide +kernel
theorem d18_2 : decode jdk_38_method_25_code 2 = .ok (.getfield 63, 3) := by decide +kernel
theorem d18_5 : decode jdk_38_method_25_code 5 = .ok (.iconst 1, 1) := by decide +kernel
theorem d18_6 : decode jdk_38_method_25_code 6 = .ok (.iadd, 1) := by decide +kernel
theorem d18_7 : decode jdk_38_method_25_code 7 = .ok (.putfield 63, 3) := by decide +kernel
theorem d18_10 : decode jdk_38_method_25_code 10 = .ok (.aload_n 0, 1) := by decide +kernel
theorem d18_11 : decode jdk_38_method_25_code 11 = .ok (.aload_n 1, 1) := by decide +kernel
theorem d18_12 : decode jdk_38_method_25_code 12 = .ok (.aload_n 0, 1) := by decide +kernel
theorem d18_13 : decode jdk_38_method_25_code 13 = .ok (.getfield 9, 3) := by decide +kernel
theorem d18_16 : decode jdk_38_method_25_code 16 = .ok (.aload_n 0, 1) := by decide +kernel
theorem d18_17 : decode jdk_38_method_25_code 17 = .ok (.getfield 48, 3) := by decide +kernel
theorem d18_20 : decode jdk_38_method_25_code 20 = .ok (.invokevirtual 131, 3) := by decide +kernel
theorem d18_23 : decode jdk_38_method_25_code 23 = .ok (.iconst 1, 1) := by decide +kernel
theorem d18_24 : decode jdk_38_method_25_code 24 = .ok (.ireturn, 1) := by decide +kernel
theorem pn_18 : plainName "java/util/ArrayList" = true := by first | (simp [plainName, overriddenIn]; done) | decide +kernel
theorem ef_18 (m : MethodId) (r0 : Addr) (r1 : Addr) : entryFrame m #[(.ref r0), (.ref r1)] 2 = mkF m 0 #[.val (.ref r0), .val (.ref r1)] [] := by first | (simp [entryFrame, mkF, argsToLocals, Value.category]; done) | rfl
abbrev QAddA (Z : State) (r0 : Addr) (r1 : Addr) (mo : Int32) (e0 : Addr) (k0 : ClassId) (h0 : Heap) (n0 : Nat) (v : Option Value) (h : Heap) (L : List Loc) : Prop := v = some (.int 1) ∧ Fr n0 L ∧ Keep h0 h [r0] ∧ ∃ (mz : Int32) (e : Addr) (k : ClassId) (vs : List Value), h0.size ≤ e ∧ vs.length = 10 ∧ Al Z h r0 (.int mz) (.ref e) (.int (Int32.ofNat 1)) ∧ Arv Z h e k (.object "java/lang/Object") (10 : Int32) vs .null ∧ Ovr Z k "java/lang/Object" ∧ vs.getD 0 .null = (.ref r1)
set_option maxRecDepth 65536 in
set_option maxHeartbeats 40000000 in
theorem rmAddA (l : Launch) (Z : State) (a0 : Array Value) (hw : ∀ d ∈ tables_1, d.before a0 Z = true) (ws : List Jvm.Cond) (r0 : Addr) (r1 : Addr) (mo : Int32) (e0 : Addr) (k0 : ClassId) (h0 : Heap) (n0 : Nat) (Z0 : n0 ≤ h0.size) (O0 : Al Z h0 r0 (.int mo) (.ref e0) (.int (0 : Int32))) (E_r1 : Exa Z h0 r1 "com/example/ballast/ballast/runtime/Outbox$Held") (ne_r0_r1 : r0 ≠ r1) (g_r0 : n0 ≤ r0) (g_r1 : n0 ≤ r1) (S0 : Sta Z Z.heap "java/util/ArrayList" "DEFAULTCAPACITY_EMPTY_ELEMENTDATA" "[Ljava/lang/Object;" (.ref e0)) (V0 : Arv Z Z.heap e0 k0 (.object "java/lang/Object") (0 : Int32) [] .null) (O : Old Z n0 h0) :
    MetFree l (⟨"java/util/ArrayList", "add", "(Ljava/lang/Object;)Z"⟩ : MethodName) (head1 (Jvm.Cond.code (⟨"java/util/ArrayList", "add", "(Ljava/lang/Object;)Z"⟩ : MethodName) jdk_38_method_25_code 2 (some .boolean) :: ws) ({ frames := 4, cells := 1, slots := 10, locals := 56 } : Room)) (fun a U => a = #[(.ref r0), (.ref r1)] ∧ Z.Warmed39 U.vm ∧ U.heap = h0) (fun _ _ _ _ _ => True) (fun _ U o U' => ∃ v L, o = .returned v ∧ QAddA Z r0 r1 mo e0 k0 h0 n0 v U'.heap L ∧ FrameEnd U o U' L 1 10) := by
  refine MetFree.of_bodySF (plainFor_of_name pn_18) hisR ?_
  intro p ev s m args below meth c s₁ Bd hml0 hP hK
  obtain ⟨rfl, hZ, hh⟩ := hP
  have hx := Bd.exec
  have hby := Bd.bytes
  have hml : c.maxLocals = 2 := hml0
  have hown : s.vm.findClass "java/util/ArrayList" = some m.cls := findClass_of_methodNamed Bd.named
  have hnm := (name_of_methodNamed Bd.named Bd.method).1
  have X0 : Stand p l ev ({ frames := 4, cells := 1, slots := 10, locals := 56 } : Room) s m #[(.ref r0), (.ref r1)] below meth c s₁ [] 0 0 := Stand.of_body Bd
  have eh0 : s₁.heap = h0 := by rw [← hh, Bd.state]; rfl
  have N0 := Fr.nil n0
  have Zs := Z0
  show Gol p ev below (FrameEnd s) (QAddA Z r0 r1 mo e0 k0 h0 n0) 1 10 (s₁.setTop (entryFrame m #[(.ref r0), (.ref r1)] 2))
  rw [ef_18]
  obtain ⟨E_r0, F_r0_modCount, F_r0_elementData, F_r0_size⟩ := O0
  have K := Keep.refl h0 [r0]
  show GolF _ _ _ _ _ _ _ s₁ m 0 #[.val (.ref r0), .val (.ref r1)] []
  refine Gol.aloadN X0 hx hby d18_0 (pc' := 1) rfl rfl rfl ?_
  refine Gol.dup X0 hx hby d18_1 (pc' := 2) rfl rfl ?_
  refine Gol.getF X0 hx hby hZ hown (host := "") (Or.inl (hw _ (List.mem_of_getElem? (i := 116) rfl))) (Via.of (hw _ (List.mem_of_getElem? (i := 117) rfl))) eh0 F_r0_modCount d18_2 (pc' := 5) rfl ?_
  intro T1 X1 e1
  refine Gol.iconst X1 hx hby d18_5 (pc' := 6) rfl (z := (1 : Int32)) rfl ?_
  refine Gol.iadd X1 hx hby d18_6 (pc' := 7) rfl rfl ?_
  refine Gol.putF X1 hx hby hZ hown (host := "") (Or.inl (hw _ (List.mem_of_getElem? (i := 116) rfl))) (Via.of (hw _ (List.mem_of_getElem? (i := 117) rfl))) e1 F_r0_modCount E_r0 (Or.inl (hw _ (List.mem_of_getElem? (i := 50) rfl))) (hw _ (List.mem_of_getElem? (i := 31) rfl)) (ty := .int) (by decide) rfl rfl d18_7 (pc' := 10) rfl ?_
  intro T2 h2 X2 e2 W2
  have E_r0 := E_r0.wr W2
  have E_r1 := E_r1.wr W2
  have F_r0_modCount := F_r0_modCount.same W2
  have F_r0_elementData := F_r0_elementData.other W2 (Or.inr (slot_ne (Or.inl (hw _ (List.mem_of_getElem? (i := 53) rfl))) (Or.inl (hw _ (List.mem_of_getElem? (i := 50) rfl))) (by decide) (t := (.array (.object "java/lang/Object"))) (t' := .int) (by decide) (by decide)))
  have F_r0_size := F_r0_size.other W2 (Or.inr (slot_ne (Or.inl (hw _ (List.mem_of_getElem? (i := 119) rfl))) (Or.inl (hw _ (List.mem_of_getElem? (i := 50) rfl))) (by decide) (t := .int) (t' := .int) (by decide) (by decide)))
  have K := K.wr W2 (Or.inl (List.mem_of_getElem? (i := 0) rfl))
  have O := O.wr W2 g_r0
  have Zs := Nat.le_trans Zs (Keep.of_wr W2).1
  have N2 := Fr.snoc X2 N0 g_r0
  refine Gol.aloadN X2 hx hby d18_10 (pc' := 11) rfl rfl rfl ?_
  refine Gol.aloadN X2 hx hby d18_11 (pc' := 12) rfl rfl rfl ?_
  refine Gol.aloadN X2 hx hby d18_12 (pc' := 13) rfl rfl rfl ?_
  refine Gol.getF X2 hx hby hZ hown (host := "") (Or.inl (hw _ (List.mem_of_getElem? (i := 52) rfl))) Via.refl e2 F_r0_elementData d18_13 (pc' := 16) rfl ?_
  intro T3 X3 e3
  refine Gol.aloadN X3 hx hby d18_16 (pc' := 17) rfl rfl rfl ?_
  refine Gol.getF X3 hx hby hZ hown (host := "") (Or.inl (hw _ (List.mem_of_getElem? (i := 118) rfl))) Via.refl e3 F_r0_size d18_17 (pc' := 20) rfl ?_
  intro T4 X4 e4
  refine Gol.callP X4 hx hby hZ hown 0 [(.ref r1), (.ref e0), (.int (0 : Int32))] (a := r0) (hw _ (List.mem_of_getElem? (i := 120) rfl)) (hw _ (List.mem_of_getElem? (i := 121) rfl)) (hw _ (List.mem_of_getElem? (i := 123) rfl)) (hw _ (List.mem_of_getElem? (i := 122) rfl)) (hw _ (List.mem_of_getElem? (i := 32) rfl)) (hw _ (List.mem_of_getElem? (i := 124) rfl)) (by decide) E_r0 (rmAdd3A l Z a0 hw [] r0 r1 e0 (0 : Int32) (mo + (1 : Int32)) e0 k0 h2 n0 Zs rfl rfl ⟨E_r0, F_r0_modCount, F_r0_elementData, F_r0_size⟩ E_r1 ne_r0_r1 g_r0 g_r1 S0 V0 O) (by decide) (by decide) e4 (by rw [hml]; rfl) (rest := []) (Nat.le_of_eq rfl) (by decide) (by decide) (lenOf pd_4 rfl) rfl d18_20 (pc' := 23) rfl ?_
  intro T5 v5 L5 X5 hQ5
  obtain ⟨rfl, Nq5, Kq5, mz5, e5a, ka5, vs5, hb5, hl5, Oq5, V_e5a, Ov5, hf5⟩ := hQ5
  have N5 := Fr.app N2 Nq5
  have lo_r0_e5a : r0 < e5a := Nat.lt_of_lt_of_le E_r0.lt hb5
  have ne_r0_e5a : r0 ≠ e5a := Nat.ne_of_lt lo_r0_e5a
  have lo_r1_e5a : r1 < e5a := Nat.lt_of_lt_of_le E_r1.lt hb5
  have ne_r1_e5a : r1 ≠ e5a := Nat.ne_of_lt lo_r1_e5a
  have g_e5a : n0 ≤ e5a := Nat.le_trans Zs hb5
  have sz_e5a : h0.size ≤ e5a := Nat.le_trans K.1 hb5
  have E_r0 := E_r0.keep Kq5
  have E_r1 := E_r1.keep Kq5
  have K := K.trans Kq5 (allS (Or.inl (List.mem_of_getElem? (i := 0) rfl)) all0)
  have O := O.keep Kq5 (allS g_r0 all0)
  have Zs := Nat.le_trans Zs Kq5.1
  show GolF _ _ _ _ _ _ _ T5 m 23 #[.val (.ref r0), .val (.ref r1)] []
  obtain ⟨E_r0, F_r0_modCount, F_r0_elementData, F_r0_size⟩ := Oq5
  refine Gol.iconst X5 hx hby d18_23 (pc' := 24) rfl (z := (1 : Int32)) rfl ?_
  exact Gol.retN X5 hx hby (t := .boolean) Bd.returns (by simp) Bd.notSynchronized d18_24 rfl ⟨rfl, N5, K, mz5, e5a, ka5, vs5, sz_e5a, hl5, ⟨E_r0, F_r0_modCount, F_r0_elementData, F_r0_size⟩, V_e5a, Ov5, hf5⟩ (by decide) (by decide)
abbrev QAdd3B (Z : State) (r0 : Addr) (r1 : Addr) (r2 : Addr) (p3 : Int32) (mo : Int32) (e : Addr) (ke : ClassId) (vs : List Value) (sz : Nat) (h0 : Heap) (n0 : Nat) (v : Option Value) (h : Heap) (L : List Loc) : Prop := v = none ∧ Fr n0 L ∧ Keep h0 h [r0, e] ∧ ∃ mz : Int32, Al Z h r0 (.int mz) (.ref e) (.int (Int32.ofNat (sz + 1))) ∧ Arv Z h e ke (.object "java/lang/Object") (10 : Int32) (vs.set sz (.ref r1)) .null
set_option maxRecDepth 65536 in
set_option maxHeartbeats 40000000 in
theorem rmAdd3B (l : Launch) (Z : State) (a0 : Array Value) (hw : ∀ d ∈ tables_1, d.before a0 Z = true) (ws : List Jvm.Cond) (r0 : Addr) (r1 : Addr) (r2 : Addr) (p3 : Int32) (mo : Int32) (e : Addr) (ke : ClassId) (vs : List Value) (sz : Nat) (h0 : Heap) (n0 : Nat) (Z0 : n0 ≤ h0.size) (hp2 : e = r2) (hp3 : p3 = Int32.ofNat sz) (O0 : Al Z h0 r0 (.int mo) (.ref e) (.int (Int32.ofNat sz))) (hsz : sz < 10) (hlen : vs.length = 10) (V_e : Arv Z h0 e ke (.object "java/lang/Object") (10 : Int32) vs .null) (ov : Ovr Z ke "java/lang/Object") (g_e : n0 ≤ e) (ne_r0_e : r0 ≠ e) (E_r1 : Exa Z h0 r1 "com/example/ballast/ballast/runtime/Outbox$Held") (ne_r0_r1 : r0 ≠ r1) (g_r0 : n0 ≤ r0) (g_r1 : n0 ≤ r1) :
    MetFree l (⟨"java/util/ArrayList", "add", "(Ljava/lang/Object;[Ljava/lang/Object;I)V"⟩ : MethodName) (head1 (Jvm.Cond.code (⟨"java/util/ArrayList", "add", "(Ljava/lang/Object;[Ljava/lang/Object;I)V"⟩ : MethodName) jdk_38_method_24_code 4 none :: ws) ({ frames := 0, cells := 0, slots := 0, locals := 0 } : Room)) (fun a U => a = #[(.ref r0), (.ref r1), (.ref r2), (.int p3)] ∧ Z.Warmed39 U.vm ∧ U.heap = h0) (fun _ _ _ _ _ => True) (fun _ U o U' => ∃ v L, o = .returned v ∧ QAdd3B Z r0 r1 r2 p3 mo e ke vs sz h0 n0 v U'.heap L ∧ FrameEnd U o U' L 0 0) := by
  refine MetFree.of_bodySF (plainFor_of_name pn_19) hisR ?_
  intro p ev s m args below meth c s₁ Bd hml0 hP hK
  obtain ⟨rfl, hZ, hh⟩ := hP
  have hx := Bd.exec
  have hby := Bd.bytes
  have hml : c.maxLocals = 4 := hml0
  have hown : s.vm.findClass "java/util/ArrayList" = some m.cls := findClass_of_methodNamed Bd.named
  have hnm := (name_of_methodNamed Bd.named Bd.method).1
  have X0 : Stand p l ev ({ frames := 0, cells := 0, slots := 0, locals := 0 } : Room) s m #[(.ref r0), (.ref r1), (.ref r2), (.int p3)] below meth c s₁ [] 0 0 := Stand.of_body Bd
  have eh0 : s₁.heap = h0 := by rw [← hh, Bd.state]; rfl
  have N0 := Fr.nil n0
  have Zs := Z0
  show Gol p ev below (FrameEnd s) (QAdd3B Z r0 r1 r2 p3 mo e ke vs sz h0 n0) 0 0 (s₁.setTop (entryFrame m #[(.ref r0), (.ref r1), (.ref r2), (.int p3)] 4))
  rw [ef_19]
  subst hp2
  subst hp3
  obtain ⟨E_r0, F_r0_modCount, F_r0_elementData, F_r0_size⟩ := O0
  have K := Keep.refl h0 [r0, e]
  show GolF _ _ _ _ _ _ _ s₁ m 0 #[.val (.ref r0), .val (.ref r1), .val (.ref e), .val (.int (Int32.ofNat sz))] []
  refine Gol.iloadN X0 hx hby d19_0 (pc' := 1) rfl rfl ?_
  refine Gol.aloadN X0 hx hby d19_1 (pc' := 2) rfl rfl rfl ?_
  refine Gol.alen X0 hx hby hZ eh0 V_e d19_2 (pc' := 3) rfl ?_
  refine Gol.icmpYes X0 hx hby d19_3 (pc' := 11) (by decide) (feq (own_ne10 hsz)).2 ?_
  refine Gol.aloadN X0 hx hby d19_11 (pc' := 12) rfl rfl rfl ?_
  refine Gol.iloadN X0 hx hby d19_12 (pc' := 13) rfl rfl ?_
  refine Gol.aloadN X0 hx hby d19_13 (pc' := 14) rfl rfl rfl ?_
  refine Gol.aastore X0 hx hby hZ eh0 V_e d19_14 (pc' := 15) rfl (own_in10 hsz) sz (own_n32 (by omega)) (by rw [hlen]; exact hsz) rfl rfl (fun _ Ar q => Sto.ofV Ar q ov (Ins.of_exa E_r1 (hw _ (List.mem_of_getElem? (i := 141) rfl)))) ?_
  intro T1 h1 X1 e1 W1 A1
  have V_e : Arv Z h1 e ke (.object "java/lang/Object") (10 : Int32) (vs.set sz (.ref r1)) .null := A1
  have E_r0 := E_r0.wr W1
  have E_r1 := E_r1.wr W1
  have F_r0_modCount := F_r0_modCount.other W1 (Or.inl ne_r0_e)
  have F_r0_elementData := F_r0_elementData.other W1 (Or.inl ne_r0_e)
  have F_r0_size := F_r0_size.other W1 (Or.inl ne_r0_e)
  have K := K.wr W1 (Or.inl (List.mem_of_getElem? (i := 1) rfl))
  have Zs := Nat.le_trans Zs (Keep.of_wr W1).1
  have N1 := Fr.snoc X1 N0 g_e
  refine Gol.aloadN X1 hx hby d19_15 (pc' := 16) rfl rfl rfl ?_
  refine Gol.iloadN X1 hx hby d19_16 (pc' := 17) rfl rfl ?_
  refine Gol.iconst X1 hx hby d19_17 (pc' := 18) rfl (z := (1 : Int32)) rfl ?_
  refine Gol.iadd X1 hx hby d19_18 (pc' := 19) rfl rfl ?_
  rw [own_one]
  show GolF _ _ _ _ _ _ _ T1 m 19 #[.val (.ref r0), .val (.ref r1), .val (.ref e), .val (.int (Int32.ofNat sz))] [(.int (Int32.ofNat (sz + 1))), (.ref r0)]
  refine Gol.putF X1 hx hby hZ hown (host := "") (Or.inl (hw _ (List.mem_of_getElem? (i := 118) rfl))) Via.refl e1 F_r0_size E_r0 (Or.inl (hw _ (List.mem_of_getElem? (i := 119) rfl))) (hw _ (List.mem_of_getElem? (i := 31) rfl)) (ty := .int) (by decide) rfl rfl d19_19 (pc' := 22) rfl ?_
  intro T2 h2 X2 e2 W2
  have E_r0 := E_r0.wr W2
  have E_r1 := E_r1.wr W2
  have F_r0_modCount := F_r0_modCount.other W2 (Or.inr (slot_ne (Or.inl (hw _ (List.mem_of_getElem? (i := 50) rfl))) (Or.inl (hw _ (List.mem_of_getElem? (i := 119) rfl))) (by decide) (t := .int) (t' := .int) (by decide) (by decide)))
  have F_r0_elementData := F_r0_elementData.other W2 (Or.inr (slot_ne (Or.inl (hw _ (List.mem_of_getElem? (i := 53) rfl))) (Or.inl (hw _ (List.mem_of_getElem? (i := 119) rfl))) (by decide) (t := (.array (.object "java/lang/Object"))) (t' := .int) (by decide) (by decide)))
  have F_r0_size := F_r0_size.same W2
  have V_e := V_e.other W2 ne_r0_e.symm
  have K := K.wr W2 (Or.inl (List.mem_of_getElem? (i := 0) rfl))
  have Zs := Nat.le_trans Zs (Keep.of_wr W2).1
  have N2 := Fr.snoc X2 N1 g_r0
  exact Gol.ret0 X2 hx hby Bd.returns Bd.notSynchronized d19_22 e2 ⟨rfl, N2, K, mo, ⟨E_r0, F_r0_modCount, F_r0_elementData, F_r0_size⟩, V_e⟩ (by decide) (by decide)
abbrev QAddB (Z : State) (r0 : Addr) (r1 : Addr) (mo : Int32) (e : Addr) (ke : ClassId) (vs : List Value) (sz : Nat) (h0 : Heap) (n0 : Nat) (v : Option Value) (h : Heap) (L : List Loc) : Prop := v = some (.int 1) ∧ Fr n0 L ∧ Keep h0 h [r0, e] ∧ ∃ mz : Int32, Al Z h r0 (.int mz) (.ref e) (.int (Int32.ofNat (sz + 1))) ∧ Arv Z h e ke (.object "java/lang/Object") (10 : Int32) (vs.set sz (.ref r1)) .null
set_option maxRecDepth 65536 in
set_option maxHeartbeats 40000000 in
theorem rmAddB (l : Launch) (Z : State) (a0 : Array Value) (hw : ∀ d ∈ tables_1, d.before a0 Z = true) (ws : List Jvm.Cond) (r0 : Addr) (r1 : Addr) (mo : Int32) (e : Addr) (ke : ClassId) (vs : List Value) (sz : Nat) (h0 : Heap) (n0 : Nat) (Z0 : n0 ≤ h0.size) (O0 : Al Z h0 r0 (.int mo) (.ref e) (.int (Int32.ofNat sz))) (hsz : sz < 10) (hlen : vs.length = 10) (V_e : Arv Z h0 e ke (.object "java/lang/Object") (10 : Int32) vs .null) (ov : Ovr Z ke "java/lang/Object") (g_e : n0 ≤ e) (ne_r0_e : r0 ≠ e) (E_r1 : Exa Z h0 r1 "com/example/ballast/ballast/runtime/Outbox$Held") (ne_r0_r1 : r0 ≠ r1) (g_r0 : n0 ≤ r0) (g_r1 : n0 ≤ r1) :
    MetFree l (⟨"java/util/ArrayList", "add", "(Ljava/lang/Object;)Z"⟩ : MethodName) (head1 (Jvm.Cond.code (⟨"java/util/ArrayList", "add", "(Ljava/lang/Object;)Z"⟩ : MethodName) jdk_38_method_25_code 2 (some .boolean) :: ws) ({ frames := 1, cells := 0, slots := 0, locals := 15 } : Room)) (fun a U => a = #[(.ref r0), (.ref r1)] ∧ Z.Warmed39 U.vm ∧ U.heap = h0) (fun _ _ _ _ _ => True) (fun _ U o U' => ∃ v L, o = .returned v ∧ QAddB Z r0 r1 mo e ke vs sz h0 n0 v U'.heap L ∧ FrameEnd U o U' L 0 0) := by
  refine MetFree.of_bodySF (plainFor_of_name pn_18) hisR ?_
  intro p ev s m args below meth c s₁ Bd hml0 hP hK
  obtain ⟨rfl, hZ, hh⟩ := hP
  have hx := Bd.exec
  have hby := Bd.bytes
  have hml : c.maxLocals = 2 := hml0
  have hown : s.vm.findClass "java/util/ArrayList" = some m.cls := findClass_of_methodNamed Bd.named
  have hnm := (name_of_methodNamed Bd.named Bd.method).1
  have X0 : Stand p l ev ({ frames := 1, cells := 0, slots := 0, locals := 15 } : Room) s m #[(.ref r0), (.ref r1)] below meth c s₁ [] 0 0 := Stand.of_body Bd
  have eh0 : s₁.heap = h0 := by rw [← hh, Bd.state]; rfl
  have N0 := Fr.nil n0
  have Zs := Z0
  show Gol p ev below (FrameEnd s) (QAddB Z r0 r1 mo e ke vs sz h0 n0) 0 0 (s₁.setTop (entryFrame m #[(.ref r0), (.ref r1)] 2))
  rw [ef_18]
  obtain ⟨E_r0, F_r0_modCount, F_r0_elementData, F_r0_size⟩ := O0
  have K := Keep.refl h0 [r0, e]
  show GolF _ _ _ _ _ _ _ s₁ m 0 #[.val (.ref r0), .val (.ref r1)] []
  refine Gol.aloadN X0 hx hby d18_0 (pc' := 1) rfl rfl rfl ?_
  refine Gol.dup X0 hx hby d18_1 (pc' := 2) rfl rfl ?_
  refine Gol.getF X0 hx hby hZ hown (host := "") (Or.inl (hw _ (List.mem_of_getElem? (i := 116) rfl))) (Via.of (hw _ (List.mem_of_getElem? (i := 117) rfl))) eh0 F_r0_modCount d18_2 (pc' := 5) rfl ?_
  intro T1 X1 e1
  refine Gol.iconst X1 hx hby d18_5 (pc' := 6) rfl (z := (1 : Int32)) rfl ?_
  refine Gol.iadd X1 hx hby d18_6 (pc' := 7) rfl rfl ?_
  refine Gol.putF X1 hx hby hZ hown (host := "") (Or.inl (hw _ (List.mem_of_getElem? (i := 116) rfl))) (Via.of (hw _ (List.mem_of_getElem? (i := 117) rfl))) e1 F_r0_modCount E_r0 (Or.inl (hw _ (List.mem_of_getElem? (i := 50) rfl))) (hw _ (List.mem_of_getElem? (i := 31) rfl)) (ty := .int) (by decide) rfl rfl d18_7 (pc' := 10) rfl ?_
  intro T2 h2 X2 e2 W2
  have E_r0 := E_r0.wr W2
  have E_r1 := E_r1.wr W2
  have F_r0_modCount := F_r0_modCount.same W2
  have F_r0_elementData := F_r0_elementData.other W2 (Or.inr (slot_ne (Or.inl (hw _ (List.mem_of_getElem? (i := 53) rfl))) (Or.inl (hw _ (List.mem_of_getElem? (i := 50) rfl))) (by decide) (t := (.array (.object "java/lang/Object"))) (t' := .int) (by decide) (by decide)))
  have F_r0_size := F_r0_size.other W2 (Or.inr (slot_ne (Or.inl (hw _ (List.mem_of_getElem? (i := 119) rfl))) (Or.inl (hw _ (List.mem_of_getElem? (i := 50) rfl))) (by decide) (t := .int) (t' := .int) (by decide) (by decide)))
  have V_e := V_e.other W2 ne_r0_e.symm
  have K := K.wr W2 (Or.inl (List.mem_of_getElem? (i := 0) rfl))
  have Zs := Nat.le_trans Zs (Keep.of_wr W2).1
  have N2 := Fr.snoc X2 N0 g_r0
  refine Gol.aloadN X2 hx hby d18_10 (pc' := 11) rfl rfl rfl ?_
  refine Gol.aloadN X2 hx hby d18_11 (pc' := 12) rfl rfl rfl ?_
  refine Gol.aloadN X2 hx hby d18_12 (pc' := 13) rfl rfl rfl ?_
  refine Gol.getF X2 hx hby hZ hown (host := "") (Or.inl (hw _ (List.mem_of_getElem? (i := 52) rfl))) Via.refl e2 F_r0_elementData d18_13 (pc' := 16) rfl ?_
  intro T3 X3 e3
  refine Gol.aloadN X3 hx hby d18_16 (pc' := 17) rfl rfl rfl ?_
  refine Gol.getF X3 hx hby hZ hown (host := "") (Or.inl (hw _ (List.mem_of_getElem? (i := 118) rfl))) Via.refl e3 F_r0_size d18_17 (pc' := 20) rfl ?_
  intro T4 X4 e4
  refine Gol.callP X4 hx hby hZ hown 0 [(.ref r1), (.ref e), (.int (Int32.ofNat sz))] (a := r0) (hw _ (List.mem_of_getElem? (i := 120) rfl)) (hw _ (List.mem_of_getElem? (i := 121) rfl)) (hw _ (List.mem_of_getElem? (i := 123) rfl)) (hw _ (List.mem_of_getElem? (i := 122) rfl)) (hw _ (List.mem_of_getElem? (i := 32) rfl)) (hw _ (List.mem_of_getElem? (i := 124) rfl)) (by decide) E_r0 (rmAdd3B l Z a0 hw [] r0 r1 e (Int32.ofNat sz) (mo + (1 : Int32)) e ke vs sz h2 n0 Zs rfl rfl ⟨E_r0, F_r0_modCount, F_r0_elementData, F_r0_size⟩ hsz hlen V_e ov g_e ne_r0_e E_r1 ne_r0_r1 g_r0 g_r1) (by decide) (by decide) e4 (by rw [hml]; rfl) (rest := []) (Nat.le_of_eq rfl) (by decide) (by decide) (lenOf pd_4 rfl) rfl d18_20 (pc' := 23) rfl ?_
  intro T5 v5 L5 X5 hQ5
  obtain ⟨rfl, Nq5, Kq5, mz5, Oq5, V_e⟩ := hQ5
  have N5 := Fr.app N2 Nq5
  have E_r0 := E_r0.keep Kq5
  have E_r1 := E_r1.keep Kq5
  have K := K.trans Kq5 (allS (Or.inl (List.mem_of_getElem? (i := 0) rfl)) (allS (Or.inl (List.mem_of_getElem? (i := 1) rfl)) all0))
  have Zs := Nat.le_trans Zs Kq5.1
  show GolF _ _ _ _ _ _ _ T5 m 23 #[.val (.ref r0), .val (.ref r1)] []
  obtain ⟨E_r0, F_r0_modCount, F_r0_elementData, F_r0_size⟩ := Oq5
  refine Gol.iconst X5 hx hby d18_23 (pc' := 24) rfl (z := (1 : Int32)) rfl ?_
  exact Gol.retN X5 hx hby (t := .boolean) Bd.returns (by simp) Bd.notSynchronized d18_24 rfl ⟨rfl, N5, K, mz5, ⟨E_r0, F_r0_modCount, F_r0_elementData, F_r0_size⟩, V_e⟩ (by decide) (by decide)
theorem d16_0 : decode prog_121_method_1_code 0 = .ok (.aload_n 0, 1) := by decide +kernel
theorem d16_1 : decode prog_121_method_1_code 1 = .ok (.invokespecial 1, 3) := by decide +kernel
theorem d16_4 : decode prog_121_method_1_code 4 = .ok (.aload_n 0, 1) := by decide +kernel
theorem d16_5 : decode prog_121_method_1_code 5 = .ok (.aload_n 1, 1) := by decide +kernel
theorem d16_6 : decode prog_121_method_1_code 6 = .ok (.putfield 7, 3) := by decide +kernel
theorem d16_9 : decode prog_121_method_1_code 9 = .ok (.aload_n 0, 1) := by decide +kernel
theorem d16_10 : decode prog_121_method_1_code 10 = .ok (.aload_n 2, 1) := by decide +kernel
theorem d16_11 : decode prog_121_method_1_code 11 = .ok (.putfield 13, 3) := by decide +kernel
theorem d16_14 : decode prog_121_method_1_code 14 = .ok (.return_, 1) := by decide +kernel
theorem pn_16 : plainName "com/example/ballast/ballast/runtime/Outbox$Held" = true := by first | (simp [plainName, overriddenIn]; done) | decide +kernel
theorem ef_16n (m : MethodId) (r0 : Addr) : entryFrame m #[(.ref r0), .null, .null] 3 = mkF m 0 #[.val (.ref r0), .val .null, .val .null] [] := by first | (simp [entryFrame, mkF, argsToLocals, Value.category]; done) | rfl
abbrev QHeld (Z : State) (r0 : Addr) (h0 : Heap) (n0 : Nat) (v : Option Value) (h : Heap) (L : List Loc) : Prop := v = none ∧ Fr n0 L ∧ Keep h0 h [r0] ∧ He Z h r0 .null .null
set_option maxRecDepth 65536 in
set_option maxHeartbeats 40000000 in
theorem rmHeld (l : Launch) (Z : State) (a0 : Array Value) (hw : ∀ d ∈ tables_1, d.before a0 Z = true) (ws : List Jvm.Cond) (r0 : Addr) (h0 : Heap) (n0 : Nat) (Z0 : n0 ≤ h0.size) (O0 : He Z h0 r0 .null .null) (g_r0 : n0 ≤ r0) :
    MetFree l (⟨"com/example/ballast/ballast/runtime/Outbox$Held", "<init>", "(Lcom/example/ballast/ballast/runtime/ActorId;Ljava/util/function/IntConsumer;)V"⟩ : MethodName) (head1 (Jvm.Cond.code (⟨"com/example/ballast/ballast/runtime/Outbox$Held", "<init>", "(Lcom/example/ballast/ballast/runtime/ActorId;Ljava/util/function/IntConsumer;)V"⟩ : MethodName) prog_121_method_1_code 3 none :: ws) ({ frames := 2, cells := 0, slots := 0, locals := 24 } : Room)) (fun a U => a = #[(.ref r0), .null, .null] ∧ Z.Warmed39 U.vm ∧ U.heap = h0) (fun _ _ _ _ _ => True) (fun _ U o U' => ∃ v L, o = .returned v ∧ QHeld Z r0 h0 n0 v U'.heap L ∧ FrameEnd U o U' L 0 0) := by
  refine MetFree.of_bodySF (plainFor_of_name pn_16) hisR ?_
  intro p ev s m args below meth c s₁ Bd hml0 hP hK
  obtain ⟨rfl, hZ, hh⟩ := hP
  have hx := Bd.exec
  have hby := Bd.bytes
  have hml : c.maxLocals = 3 := hml0
  have hown : s.vm.findClass "com/example/ballast/ballast/runtime/Outbox$Held" = some m.cls := findClass_of_methodNamed Bd.named
  have hnm := (name_of_methodNamed Bd.named Bd.method).1
  have X0 : Stand p l ev ({ frames := 2, cells := 0, slots := 0, locals := 24 } : Room) s m #[(.ref r0), .null, .null] below meth c s₁ [] 0 0 := Stand.of_body Bd
  have eh0 : s₁.heap = h0 := by rw [← hh, Bd.state]; rfl
  have N0 := Fr.nil n0
  have Zs := Z0
  show Gol p ev below (FrameEnd s) (QHeld Z r0 h0 n0) 0 0 (s₁.setTop (entryFrame m #[(.ref r0), .null, .null] 3))
  rw [ef_16n]
  obtain ⟨E_r0, F_r0_receiver, F_r0_send⟩ := O0
  have K := Keep.refl h0 [r0]
  show GolF _ _ _ _ _ _ _ s₁ m 0 #[.val (.ref r0), .val .null, .val .null] []
  refine Gol.aloadN X0 hx hby d16_0 (pc' := 1) rfl rfl rfl ?_
  refine Gol.callI X0 hx hby hZ hown 0 [] (a := r0) (hw _ (List.mem_of_getElem? (i := 97) rfl)) (hw _ (List.mem_of_getElem? (i := 98) rfl)) (hw _ (List.mem_of_getElem? (i := 100) rfl)) rfl (hw _ (List.mem_of_getElem? (i := 101) rfl)) rfl (by decide) (rm17 l Z a0 hw [] r0  h0 n0 Zs ) (by decide) (by decide) eh0 (by rw [hml]; rfl) (rest := []) (Nat.le_of_eq rfl) (by decide) (by decide) (lenOf pd_0 rfl) rfl d16_1 (pc' := 4) rfl ?_
  intro T1 v1 L1 X1 hQ1
  obtain ⟨rfl, Nq1, eq1⟩ := hQ1
  have N1 := Fr.app N0 Nq1
  show GolF _ _ _ _ _ _ _ T1 m 4 #[.val (.ref r0), .val .null, .val .null] []
  refine Gol.aloadN X1 hx hby d16_4 (pc' := 5) rfl rfl rfl ?_
  refine Gol.aloadN X1 hx hby d16_5 (pc' := 6) rfl rfl rfl ?_
  refine Gol.putF X1 hx hby hZ hown (host := "") (Or.inl (hw _ (List.mem_of_getElem? (i := 103) rfl))) Via.refl eq1 F_r0_receiver E_r0 (Or.inr ⟨(hw _ (List.mem_of_getElem? (i := 104) rfl)), rfl, hnm⟩) (hw _ (List.mem_of_getElem? (i := 92) rfl)) (ty := (.object "com/example/ballast/ballast/runtime/ActorId")) (by decide) rfl rfl d16_6 (pc' := 9) rfl ?_
  intro T2 h2 X2 e2 W2
  have E_r0 := E_r0.wr W2
  have F_r0_receiver := F_r0_receiver.same W2
  have F_r0_send := F_r0_send.other W2 (Or.inr (slot_ne (Or.inr (hw _ (List.mem_of_getElem? (i := 106) rfl))) (Or.inr (hw _ (List.mem_of_getElem? (i := 104) rfl))) (by decide) (t := (.object "java/util/function/IntConsumer")) (t' := (.object "com/example/ballast/ballast/runtime/ActorId")) (by decide) (by decide)))
  have K := K.wr W2 (Or.inl (List.mem_of_getElem? (i := 0) rfl))
  have Zs := Nat.le_trans Zs (Keep.of_wr W2).1
  have N2 := Fr.snoc X2 N1 g_r0
  refine Gol.aloadN X2 hx hby d16_9 (pc' := 10) rfl rfl rfl ?_
  refine Gol.aloadN X2 hx hby d16_10 (pc' := 11) rfl rfl rfl ?_
  refine Gol.putF X2 hx hby hZ hown (host := "") (Or.inl (hw _ (List.mem_of_getElem? (i := 105) rfl))) Via.refl e2 F_r0_send E_r0 (Or.inr ⟨(hw _ (List.mem_of_getElem? (i := 106) rfl)), rfl, hnm⟩) (hw _ (List.mem_of_getElem? (i := 92) rfl)) (ty := (.object "java/util/function/IntConsumer")) (by decide) rfl rfl d16_11 (pc' := 14) rfl ?_
  intro T3 h3 X3 e3 W3
  have E_r0 := E_r0.wr W3
  have F_r0_receiver := F_r0_receiver.other W3 (Or.inr (slot_ne (Or.inr (hw _ (List.mem_of_getElem? (i := 104) rfl))) (Or.inr (hw _ (List.mem_of_getElem? (i := 106) rfl))) (by decide) (t := (.object "com/example/ballast/ballast/runtime/ActorId")) (t' := (.object "java/util/function/IntConsumer")) (by decide) (by decide)))
  have F_r0_send := F_r0_send.same W3
  have K := K.wr W3 (Or.inl (List.mem_of_getElem? (i := 0) rfl))
  have Zs := Nat.le_trans Zs (Keep.of_wr W3).1
  have N3 := Fr.snoc X3 N2 g_r0
  exact Gol.ret0 X3 hx hby Bd.returns Bd.notSynchronized d16_14 e3 ⟨rfl, N3, K, ⟨E_r0, F_r0_receiver, F_r0_send⟩⟩ (by decide) (by decide)
theorem d15_0 : decode prog_120_method_8_code 0 = .ok (.aload_n 0, 1) := by decide +kernel
theorem d15_1 : decode prog_120_method_8_code 1 = .ok (.getfield 26, 3) := by decide +kernel
theorem d15_4 : decode prog_120_method_8_code 4 = .ok (.new 30, 3) := by decide +kernel
theorem d15_7 : decode prog_120_method_8_code 7 = .ok (.dup, 1) := by decide +kernel
theorem d15_8 : decode prog_120_method_8_code 8 = .ok (.aload_n 1, 1) := by decide +kernel
theorem d15_9 : decode prog_120_method_8_code 9 = .ok (.aload_n 2, 1) := by decide +kernel
theorem d15_10 : decode prog_120_method_8_code 10 = .ok (.invokespecial 32, 3) := by decide +kernel
theorem d15_13 : decode prog_120_method_8_code 13 = .ok (.invokeinterface 35 2, 5) := by decide +kernel
theorem d15_18 : decode prog_120_method_8_code 18 = .ok (.pop, 1) := by decide +kernel
theorem d15_19 : decode prog_120_method_8_code 19 = .ok (.return_, 1) := by decide +kernel
theorem pn_15 : plainName "com/example/ballast/ballast/runtime/Outbox" = true := by first | (simp [plainName, overriddenIn]; done) | decide +kernel
theorem ef_15n (m : MethodId) (r0 : Addr) : entryFrame m #[(.ref r0), .null, .null] 3 = mkF m 0 #[.val (.ref r0), .val .null, .val .null] [] := by first | (simp [entryFrame, mkF, argsToLocals, Value.category]; done) | rfl
abbrev QHoldA (Z : State) (r0 : Addr) (v0 : Value) (v1 : Value) (v3 : Value) (hb : Addr) (mo : Int32) (e0 : Addr) (k0 : ClassId) (h0 : Heap) (n0 : Nat) (v : Option Value) (h : Heap) (L : List Loc) : Prop := v = none ∧ Fr n0 L ∧ Keep h0 h [hb] ∧ ∃ (x : Addr) (mz : Int32) (e : Addr) (k : ClassId) (vs : List Value), h0.size ≤ e ∧ vs.length = 10 ∧ Al Z h hb (.int mz) (.ref e) (.int (Int32.ofNat 1)) ∧ Arv Z h e k (.object "java/lang/Object") (10 : Int32) vs .null ∧ Ovr Z k "java/lang/Object" ∧ vs.getD 0 .null = (.ref x) ∧ h0.size ≤ x ∧ x ≠ e ∧ He Z h x .null .null
set_option maxRecDepth 65536 in
set_option maxHeartbeats 40000000 in
theorem rmHoldA (l : Launch) (Z : State) (a0 : Array Value) (hw : ∀ d ∈ tables_1, d.before a0 Z = true) (ws : List Jvm.Cond) (r0 : Addr) (v0 : Value) (v1 : Value) (v3 : Value) (hb : Addr) (mo : Int32) (e0 : Addr) (k0 : ClassId) (h0 : Heap) (n0 : Nat) (Z0 : n0 ≤ h0.size) (O1 : Ob Z h0 r0 v0 v1 (.ref hb) v3) (g_r0 : n0 ≤ r0) (g_hb : n0 ≤ hb) (ne_r0_hb : r0 ≠ hb) (O0 : Al Z h0 hb (.int mo) (.ref e0) (.int (0 : Int32))) (S0 : Sta Z Z.heap "java/util/ArrayList" "DEFAULTCAPACITY_EMPTY_ELEMENTDATA" "[Ljava/lang/Object;" (.ref e0)) (V0 : Arv Z Z.heap e0 k0 (.object "java/lang/Object") (0 : Int32) [] .null) (O : Old Z n0 h0) :
    MetFree l (⟨"com/example/ballast/ballast/runtime/Outbox", "hold", "(Lcom/example/ballast/ballast/runtime/ActorId;Ljava/util/function/IntConsumer;)V"⟩ : MethodName) (head1 (Jvm.Cond.code (⟨"com/example/ballast/ballast/runtime/Outbox", "hold", "(Lcom/example/ballast/ballast/runtime/ActorId;Ljava/util/function/IntConsumer;)V"⟩ : MethodName) prog_120_method_8_code 3 none :: ws) ({ frames := 5, cells := 2, slots := 12, locals := 69 } : Room)) (fun a U => a = #[(.ref r0), .null, .null] ∧ Z.Warmed39 U.vm ∧ U.heap = h0) (fun _ _ _ _ _ => True) (fun _ U o U' => ∃ v L, o = .returned v ∧ QHoldA Z r0 v0 v1 v3 hb mo e0 k0 h0 n0 v U'.heap L ∧ FrameEnd U o U' L 2 12) := by
  refine MetFree.of_bodySF (plainFor_of_name pn_15) hisR ?_
  intro p ev s m args below meth c s₁ Bd hml0 hP hK
  obtain ⟨rfl, hZ, hh⟩ := hP
  have hx := Bd.exec
  have hby := Bd.bytes
  have hml : c.maxLocals = 3 := hml0
  have hown : s.vm.findClass "com/example/ballast/ballast/runtime/Outbox" = some m.cls := findClass_of_methodNamed Bd.named
  have hnm := (name_of_methodNamed Bd.named Bd.method).1
  have X0 : Stand p l ev ({ frames := 5, cells := 2, slots := 12, locals := 69 } : Room) s m #[(.ref r0), .null, .null] below meth c s₁ [] 0 0 := Stand.of_body Bd
  have eh0 : s₁.heap = h0 := by rw [← hh, Bd.state]; rfl
  have N0 := Fr.nil n0
  have Zs := Z0
  show Gol p ev below (FrameEnd s) (QHoldA Z r0 v0 v1 v3 hb mo e0 k0 h0 n0) 2 12 (s₁.setTop (entryFrame m #[(.ref r0), .null, .null] 3))
  rw [ef_15n]
  obtain ⟨E_r0, F_r0_lastSent, F_r0_awaitingFlush, F_r0_held, F_r0_deferredMove⟩ := O1
  obtain ⟨E_hb, F_hb_modCount, F_hb_elementData, F_hb_size⟩ := O0
  have K := Keep.refl h0 [hb]
  show GolF _ _ _ _ _ _ _ s₁ m 0 #[.val (.ref r0), .val .null, .val .null] []
  refine Gol.aloadN X0 hx hby d15_0 (pc' := 1) rfl rfl rfl ?_
  refine Gol.getF X0 hx hby hZ hown (host := "") (Or.inl (hw _ (List.mem_of_getElem? (i := 19) rfl))) Via.refl eh0 F_r0_held d15_1 (pc' := 4) rfl ?_
  intro T1 X1 e1
  refine Gol.newO X1 hx hby hZ hown (hw _ (List.mem_of_getElem? (i := 91) rfl)) (hw _ (List.mem_of_getElem? (i := 92) rfl)) (hw _ (List.mem_of_getElem? (i := 93) rfl)) e1 d15_4 (pc' := 7) rfl (by decide) (by decide) ?_
  intro T2 h2 b2 g2 X2 e2 E2 A2 D2
  have lo_r0_b2 : r0 < b2 := Nat.lt_of_lt_of_le E_r0.lt (Nat.le_of_eq g2.symm)
  have ne_r0_b2 : r0 ≠ b2 := Nat.ne_of_lt lo_r0_b2
  have lo_hb_b2 : hb < b2 := Nat.lt_of_lt_of_le E_hb.lt (Nat.le_of_eq g2.symm)
  have ne_hb_b2 : hb ≠ b2 := Nat.ne_of_lt lo_hb_b2
  have g_b2 : n0 ≤ b2 := Nat.le_trans Zs (Nat.le_of_eq g2.symm)
  have sz_b2 : h0.size ≤ b2 := Nat.le_trans K.1 (Nat.le_of_eq g2.symm)
  have E_r0 := E_r0.ext E2
  have E_hb := E_hb.ext E2
  have F_r0_lastSent := F_r0_lastSent.ext E2
  have F_r0_awaitingFlush := F_r0_awaitingFlush.ext E2
  have F_r0_held := F_r0_held.ext E2
  have F_r0_deferredMove := F_r0_deferredMove.ext E2
  have F_hb_modCount := F_hb_modCount.ext E2
  have F_hb_elementData := F_hb_elementData.ext E2
  have F_hb_size := F_hb_size.ext E2
  have K := K.ext E2
  have O := O.ext E2
  have Zs := Nat.le_trans Zs E2.1
  have E_b2 := A2
  have F_b2_receiver : Fld Z h2 b2 "com/example/ballast/ballast/runtime/Outbox$Held" "receiver" "Lcom/example/ballast/ballast/runtime/ActorId;" .null := D2 (Or.inr (hw _ (List.mem_of_getElem? (i := 104) rfl))) (ty := (.object "com/example/ballast/ballast/runtime/ActorId")) (by decide)
  have F_b2_send : Fld Z h2 b2 "com/example/ballast/ballast/runtime/Outbox$Held" "send" "Ljava/util/function/IntConsumer;" .null := D2 (Or.inr (hw _ (List.mem_of_getElem? (i := 106) rfl))) (ty := (.object "java/util/function/IntConsumer")) (by decide)
  refine Gol.dup X2 hx hby d15_7 (pc' := 8) rfl rfl ?_
  refine Gol.aloadN X2 hx hby d15_8 (pc' := 9) rfl rfl rfl ?_
  refine Gol.aloadN X2 hx hby d15_9 (pc' := 10) rfl rfl rfl ?_
  refine Gol.callI X2 hx hby hZ hown 2 [.null, .null] (a := b2) (hw _ (List.mem_of_getElem? (i := 94) rfl)) (hw _ (List.mem_of_getElem? (i := 95) rfl)) (hw _ (List.mem_of_getElem? (i := 93) rfl)) rfl (hw _ (List.mem_of_getElem? (i := 96) rfl)) rfl (by decide) (rmHeld l Z a0 hw [] b2  h2 n0 Zs ⟨E_b2, F_b2_receiver, F_b2_send⟩ g_b2) (by decide) (by decide) e2 (by rw [hml]; rfl) (rest := [(.ref b2), (.ref hb)]) (Nat.le_of_eq rfl) (by decide) (by decide) (lenOf pd_5 rfl) rfl d15_10 (pc' := 13) rfl ?_
  intro T3 v3 L3 X3 hQ3
  obtain ⟨rfl, Nq3, Kq3, Oq3⟩ := hQ3
  have N3 := Fr.app N0 Nq3
  have E_r0 := E_r0.keep Kq3
  have E_hb := E_hb.keep Kq3
  have E_b2 := E_b2.keep Kq3
  have F_r0_lastSent := F_r0_lastSent.keep Kq3 (ninS ne_r0_b2 nin0)
  have F_r0_awaitingFlush := F_r0_awaitingFlush.keep Kq3 (ninS ne_r0_b2 nin0)
  have F_r0_held := F_r0_held.keep Kq3 (ninS ne_r0_b2 nin0)
  have F_r0_deferredMove := F_r0_deferredMove.keep Kq3 (ninS ne_r0_b2 nin0)
  have F_hb_modCount := F_hb_modCount.keep Kq3 (ninS ne_hb_b2 nin0)
  have F_hb_elementData := F_hb_elementData.keep Kq3 (ninS ne_hb_b2 nin0)
  have F_hb_size := F_hb_size.keep Kq3 (ninS ne_hb_b2 nin0)
  have K := K.trans Kq3 (allS (Or.inr sz_b2) all0)
  have O := O.keep Kq3 (allS g_b2 all0)
  have Zs := Nat.le_trans Zs Kq3.1
  show GolF _ _ _ _ _ _ _ T3 m 13 #[.val (.ref r0), .val .null, .val .null] [(.ref b2), (.ref hb)]
  obtain ⟨E_b2, F_b2_receiver, F_b2_send⟩ := Oq3
  refine Gol.callF X3 hx hby hZ hown 0 [(.ref b2)] (a := hb) (hw _ (List.mem_of_getElem? (i := 107) rfl)) (hw _ (List.mem_of_getElem? (i := 108) rfl)) (mvT hZ (hw _ (List.mem_of_getElem? (i := 109) rfl))) (hw _ (List.mem_of_getElem? (i := 110) rfl)) (hw _ (List.mem_of_getElem? (i := 111) rfl)) (hw _ (List.mem_of_getElem? (i := 112) rfl)) (hw _ (List.mem_of_getElem? (i := 113) rfl)) (hw _ (List.mem_of_getElem? (i := 114) rfl)) (hw _ (List.mem_of_getElem? (i := 32) rfl)) (hw _ (List.mem_of_getElem? (i := 115) rfl)) (by decide) E_hb (rmAddA l Z a0 hw [] hb b2 mo e0 k0 T3.heap n0 Zs ⟨E_hb, F_hb_modCount, F_hb_elementData, F_hb_size⟩ E_b2 ne_hb_b2 g_hb g_b2 S0 V0 O) (by decide) (by decide) rfl (by rw [hml]; rfl) (rest := []) (Nat.le_of_eq rfl) (by decide) (by decide) (lenOf pd_6 rfl) rfl d15_13 (pc' := 18) rfl ?_
  intro T4 v4 L4 X4 hQ4
  obtain ⟨rfl, Nq4, Kq4, mz4, e4a, ka4, vs4, hb4, hl4, Oq4, V_e4a, Ov4, hf4⟩ := hQ4
  have N4 := Fr.app N3 Nq4
  have lo_r0_e4a : r0 < e4a := Nat.lt_of_lt_of_le E_r0.lt hb4
  have ne_r0_e4a : r0 ≠ e4a := Nat.ne_of_lt lo_r0_e4a
  have lo_hb_e4a : hb < e4a := Nat.lt_of_lt_of_le E_hb.lt hb4
  have ne_hb_e4a : hb ≠ e4a := Nat.ne_of_lt lo_hb_e4a
  have lo_b2_e4a : b2 < e4a := Nat.lt_of_lt_of_le E_b2.lt hb4
  have ne_b2_e4a : b2 ≠ e4a := Nat.ne_of_lt lo_b2_e4a
  have g_e4a : n0 ≤ e4a := Nat.le_trans Zs hb4
  have sz_e4a : h0.size ≤ e4a := Nat.le_trans K.1 hb4
  have E_r0 := E_r0.keep Kq4
  have E_hb := E_hb.keep Kq4
  have E_b2 := E_b2.keep Kq4
  have F_r0_lastSent := F_r0_lastSent.keep Kq4 (ninS ne_r0_hb nin0)
  have F_r0_awaitingFlush := F_r0_awaitingFlush.keep Kq4 (ninS ne_r0_hb nin0)
  have F_r0_held := F_r0_held.keep Kq4 (ninS ne_r0_hb nin0)
  have F_r0_deferredMove := F_r0_deferredMove.keep Kq4 (ninS ne_r0_hb nin0)
  have F_b2_receiver := F_b2_receiver.keep Kq4 (ninS ne_hb_b2.symm nin0)
  have F_b2_send := F_b2_send.keep Kq4 (ninS ne_hb_b2.symm nin0)
  have K := K.trans Kq4 (allS (Or.inl (List.mem_of_getElem? (i := 0) rfl)) all0)
  have O := O.keep Kq4 (allS g_hb all0)
  have Zs := Nat.le_trans Zs Kq4.1
  show GolF _ _ _ _ _ _ _ T4 m 18 #[.val (.ref r0), .val .null, .val .null] [(.int (1 : Int32))]
  obtain ⟨E_hb, F_hb_modCount, F_hb_elementData, F_hb_size⟩ := Oq4
  refine Gol.pop X4 hx hby d15_18 (pc' := 19) rfl rfl ?_
  exact Gol.ret0 X4 hx hby Bd.returns Bd.notSynchronized d15_19 rfl ⟨rfl, N4, K, b2, mz4, e4a, ka4, vs4, sz_e4a, hl4, ⟨E_hb, F_hb_modCount, F_hb_elementData, F_hb_size⟩, V_e4a, Ov4, hf4, sz_b2, ne_b2_e4a, ⟨E_b2, F_b2_receiver, F_b2_send⟩⟩ (by decide) (by decide)
abbrev QHoldB (Z : State) (r0 : Addr) (v0 : Value) (v1 : Value) (v3 : Value) (hb : Addr) (mo : Int32) (e : Addr) (ke : ClassId) (vs : List Value) (sz : Nat) (h0 : Heap) (n0 : Nat) (v : Option Value) (h : Heap) (L : List Loc) : Prop := v = none ∧ Fr n0 L ∧ Keep h0 h [hb, e] ∧ ∃ (x : Addr) (mz : Int32), Al Z h hb (.int mz) (.ref e) (.int (Int32.ofNat (sz + 1))) ∧ Arv Z h e ke (.object "java/lang/Object") (10 : Int32) (vs.set sz (.ref x)) .null ∧ h0.size ≤ x ∧ He Z h x .null .null
set_option maxRecDepth 65536 in
set_option maxHeartbeats 40000000 in
theorem rmHoldB (l : Launch) (Z : State) (a0 : Array Value) (hw : ∀ d ∈ tables_1, d.before a0 Z = true) (ws : List Jvm.Cond) (r0 : Addr) (v0 : Value) (v1 : Value) (v3 : Value) (hb : Addr) (mo : Int32) (e : Addr) (ke : ClassId) (vs : List Value) (sz : Nat) (h0 : Heap) (n0 : Nat) (Z0 : n0 ≤ h0.size) (O1 : Ob Z h0 r0 v0 v1 (.ref hb) v3) (g_r0 : n0 ≤ r0) (g_hb : n0 ≤ hb) (ne_r0_hb : r0 ≠ hb) (O0 : Al Z h0 hb (.int mo) (.ref e) (.int (Int32.ofNat sz))) (hsz : sz < 10) (hlen : vs.length = 10) (V_e : Arv Z h0 e ke (.object "java/lang/Object") (10 : Int32) vs .null) (ov : Ovr Z ke "java/lang/Object") (g_e : n0 ≤ e) (ne_hb_e : hb ≠ e) (ne_r0_e : r0 ≠ e) :
    MetFree l (⟨"com/example/ballast/ballast/runtime/Outbox", "hold", "(Lcom/example/ballast/ballast/runtime/ActorId;Ljava/util/function/IntConsumer;)V"⟩ : MethodName) (head1 (Jvm.Cond.code (⟨"com/example/ballast/ballast/runtime/Outbox", "hold", "(Lcom/example/ballast/ballast/runtime/ActorId;Ljava/util/function/IntConsumer;)V"⟩ : MethodName) prog_120_method_8_code 3 none :: ws) ({ frames := 3, cells := 1, slots := 2, locals := 40 } : Room)) (fun a U => a = #[(.ref r0), .null, .null] ∧ Z.Warmed39 U.vm ∧ U.heap = h0) (fun _ _ _ _ _ => True) (fun _ U o U' => ∃ v L, o = .returned v ∧ QHoldB Z r0 v0 v1 v3 hb mo e ke vs sz h0 n0 v U'.heap L ∧ FrameEnd U o U' L 1 2) := by
  refine MetFree.of_bodySF (plainFor_of_name pn_15) hisR ?_
  intro p ev s m args below meth c s₁ Bd hml0 hP hK
  obtain ⟨rfl, hZ, hh⟩ := hP
  have hx := Bd.exec
  have hby := Bd.bytes
  have hml : c.maxLocals = 3 := hml0
  have hown : s.vm.findClass "com/example/ballast/ballast/runtime/Outbox" = some m.cls := findClass_of_methodNamed Bd.named
  have hnm := (name_of_methodNamed Bd.named Bd.method).1
  have X0 : Stand p l ev ({ frames := 3, cells := 1, slots := 2, locals := 40 } : Room) s m #[(.ref r0), .null, .null] below meth c s₁ [] 0 0 := Stand.of_body Bd
  have eh0 : s₁.heap = h0 := by rw [← hh, Bd.state]; rfl
  have N0 := Fr.nil n0
  have Zs := Z0
  show Gol p ev below (FrameEnd s) (QHoldB Z r0 v0 v1 v3 hb mo e ke vs sz h0 n0) 1 2 (s₁.setTop (entryFrame m #[(.ref r0), .null, .null] 3))
  rw [ef_15n]
  obtain ⟨E_r0, F_r0_lastSent, F_r0_awaitingFlush, F_r0_held, F_r0_deferredMove⟩ := O1
  obtain ⟨E_hb, F_hb_modCount, F_hb_elementData, F_hb_size⟩ := O0
  have K := Keep.refl h0 [hb, e]
  show GolF _ _ _ _ _ _ _ s₁ m 0 #[.val (.ref r0), .val .null, .val .null] []
  refine Gol.aloadN X0 hx hby d15_0 (pc' := 1) rfl rfl rfl ?_
  refine Gol.getF X0 hx hby hZ hown (host := "") (Or.inl (hw _ (List.mem_of_getElem? (i := 19) rfl))) Via.refl eh0 F_r0_held d15_1 (pc' := 4) rfl ?_
  intro T1 X1 e1
  refine Gol.newO X1 hx hby hZ hown (hw _ (List.mem_of_getElem? (i := 91) rfl)) (hw _ (List.mem_of_getElem? (i := 92) rfl)) (hw _ (List.mem_of_getElem? (i := 93) rfl)) e1 d15_4 (pc' := 7) rfl (by decide) (by decide) ?_
  intro T2 h2 b2 g2 X2 e2 E2 A2 D2
  have lo_r0_b2 : r0 < b2 := Nat.lt_of_lt_of_le E_r0.lt (Nat.le_of_eq g2.symm)
  have ne_r0_b2 : r0 ≠ b2 := Nat.ne_of_lt lo_r0_b2
  have lo_hb_b2 : hb < b2 := Nat.lt_of_lt_of_le E_hb.lt (Nat.le_of_eq g2.symm)
  have ne_hb_b2 : hb ≠ b2 := Nat.ne_of_lt lo_hb_b2
  have lo_e_b2 : e < b2 := Nat.lt_of_lt_of_le V_e.lt (Nat.le_of_eq g2.symm)
  have ne_e_b2 : e ≠ b2 := Nat.ne_of_lt lo_e_b2
  have g_b2 : n0 ≤ b2 := Nat.le_trans Zs (Nat.le_of_eq g2.symm)
  have sz_b2 : h0.size ≤ b2 := Nat.le_trans K.1 (Nat.le_of_eq g2.symm)
  have E_r0 := E_r0.ext E2
  have E_hb := E_hb.ext E2
  have F_r0_lastSent := F_r0_lastSent.ext E2
  have F_r0_awaitingFlush := F_r0_awaitingFlush.ext E2
  have F_r0_held := F_r0_held.ext E2
  have F_r0_deferredMove := F_r0_deferredMove.ext E2
  have F_hb_modCount := F_hb_modCount.ext E2
  have F_hb_elementData := F_hb_elementData.ext E2
  have F_hb_size := F_hb_size.ext E2
  have V_e := V_e.ext E2
  have K := K.ext E2
  have Zs := Nat.le_trans Zs E2.1
  have E_b2 := A2
  have F_b2_receiver : Fld Z h2 b2 "com/example/ballast/ballast/runtime/Outbox$Held" "receiver" "Lcom/example/ballast/ballast/runtime/ActorId;" .null := D2 (Or.inr (hw _ (List.mem_of_getElem? (i := 104) rfl))) (ty := (.object "com/example/ballast/ballast/runtime/ActorId")) (by decide)
  have F_b2_send : Fld Z h2 b2 "com/example/ballast/ballast/runtime/Outbox$Held" "send" "Ljava/util/function/IntConsumer;" .null := D2 (Or.inr (hw _ (List.mem_of_getElem? (i := 106) rfl))) (ty := (.object "java/util/function/IntConsumer")) (by decide)
  refine Gol.dup X2 hx hby d15_7 (pc' := 8) rfl rfl ?_
  refine Gol.aloadN X2 hx hby d15_8 (pc' := 9) rfl rfl rfl ?_
  refine Gol.aloadN X2 hx hby d15_9 (pc' := 10) rfl rfl rfl ?_
  refine Gol.callI X2 hx hby hZ hown 2 [.null, .null] (a := b2) (hw _ (List.mem_of_getElem? (i := 94) rfl)) (hw _ (List.mem_of_getElem? (i := 95) rfl)) (hw _ (List.mem_of_getElem? (i := 93) rfl)) rfl (hw _ (List.mem_of_getElem? (i := 96) rfl)) rfl (by decide) (rmHeld l Z a0 hw [] b2  h2 n0 Zs ⟨E_b2, F_b2_receiver, F_b2_send⟩ g_b2) (by decide) (by decide) e2 (by rw [hml]; rfl) (rest := [(.ref b2), (.ref hb)]) (Nat.le_of_eq rfl) (by decide) (by decide) (lenOf pd_5 rfl) rfl d15_10 (pc' := 13) rfl ?_
  intro T3 v3 L3 X3 hQ3
  obtain ⟨rfl, Nq3, Kq3, Oq3⟩ := hQ3
  have N3 := Fr.app N0 Nq3
  have E_r0 := E_r0.keep Kq3
  have E_hb := E_hb.keep Kq3
  have E_b2 := E_b2.keep Kq3
  have F_r0_lastSent := F_r0_lastSent.keep Kq3 (ninS ne_r0_b2 nin0)
  have F_r0_awaitingFlush := F_r0_awaitingFlush.keep Kq3 (ninS ne_r0_b2 nin0)
  have F_r0_held := F_r0_held.keep Kq3 (ninS ne_r0_b2 nin0)
  have F_r0_deferredMove := F_r0_deferredMove.keep Kq3 (ninS ne_r0_b2 nin0)
  have F_hb_modCount := F_hb_modCount.keep Kq3 (ninS ne_hb_b2 nin0)
  have F_hb_elementData := F_hb_elementData.keep Kq3 (ninS ne_hb_b2 nin0)
  have F_hb_size := F_hb_size.keep Kq3 (ninS ne_hb_b2 nin0)
  have V_e := V_e.keep Kq3 (ninS ne_e_b2 nin0)
  have K := K.trans Kq3 (allS (Or.inr sz_b2) all0)
  have Zs := Nat.le_trans Zs Kq3.1
  show GolF _ _ _ _ _ _ _ T3 m 13 #[.val (.ref r0), .val .null, .val .null] [(.ref b2), (.ref hb)]
  obtain ⟨E_b2, F_b2_receiver, F_b2_send⟩ := Oq3
  refine Gol.callF X3 hx hby hZ hown 0 [(.ref b2)] (a := hb) (hw _ (List.mem_of_getElem? (i := 107) rfl)) (hw _ (List.mem_of_getElem? (i := 108) rfl)) (mvT hZ (hw _ (List.mem_of_getElem? (i := 109) rfl))) (hw _ (List.mem_of_getElem? (i := 110) rfl)) (hw _ (List.mem_of_getElem? (i := 111) rfl)) (hw _ (List.mem_of_getElem? (i := 112) rfl)) (hw _ (List.mem_of_getElem? (i := 113) rfl)) (hw _ (List.mem_of_getElem? (i := 114) rfl)) (hw _ (List.mem_of_getElem? (i := 32) rfl)) (hw _ (List.mem_of_getElem? (i := 115) rfl)) (by decide) E_hb (rmAddB l Z a0 hw [] hb b2 mo e ke vs sz T3.heap n0 Zs ⟨E_hb, F_hb_modCount, F_hb_elementData, F_hb_size⟩ hsz hlen V_e ov g_e ne_hb_e E_b2 ne_hb_b2 g_hb g_b2) (by decide) (by decide) rfl (by rw [hml]; rfl) (rest := []) (Nat.le_of_eq rfl) (by decide) (by decide) (lenOf pd_6 rfl) rfl d15_13 (pc' := 18) rfl ?_
  intro T4 v4 L4 X4 hQ4
  obtain ⟨rfl, Nq4, Kq4, mz4, Oq4, V_e⟩ := hQ4
  have N4 := Fr.app N3 Nq4
  have E_r0 := E_r0.keep Kq4
  have E_hb := E_hb.keep Kq4
  have E_b2 := E_b2.keep Kq4
  have F_r0_lastSent := F_r0_lastSent.keep Kq4 (ninS ne_r0_hb (ninS ne_r0_e nin0))
  have F_r0_awaitingFlush := F_r0_awaitingFlush.keep Kq4 (ninS ne_r0_hb (ninS ne_r0_e nin0))
  have F_r0_held := F_r0_held.keep Kq4 (ninS ne_r0_hb (ninS ne_r0_e nin0))
  have F_r0_deferredMove := F_r0_deferredMove.keep Kq4 (ninS ne_r0_hb (ninS ne_r0_e nin0))
  have F_b2_receiver := F_b2_receiver.keep Kq4 (ninS ne_hb_b2.symm (ninS ne_e_b2.symm nin0))
  have F_b2_send := F_b2_send.keep Kq4 (ninS ne_hb_b2.symm (ninS ne_e_b2.symm nin0))
  have K := K.trans Kq4 (allS (Or.inl (List.mem_of_getElem? (i := 0) rfl)) (allS (Or.inl (List.mem_of_getElem? (i := 1) rfl)) all0))
  have Zs := Nat.le_trans Zs Kq4.1
  show GolF _ _ _ _ _ _ _ T4 m 18 #[.val (.ref r0), .val .null, .val .null] [(.int (1 : Int32))]
  obtain ⟨E_hb, F_hb_modCount, F_hb_elementData, F_hb_size⟩ := Oq4
  refine Gol.pop X4 hx hby d15_18 (pc' := 19) rfl rfl ?_
  exact Gol.ret0 X4 hx hby Bd.returns Bd.notSynchronized d15_19 rfl ⟨rfl, N4, K, b2, mz4, ⟨E_hb, F_hb_modCount, F_hb_elementData, F_hb_size⟩, V_e, sz_b2, ⟨E_b2, F_b2_receiver, F_b2_send⟩⟩ (by decide) (by decide)
/-- the outbox o holds nothing (w = 0), or a list (w = 1): empty, or with an array of ten places and at most bd of them taken -/
def HS (Z : State) (h : Heap) (n0 : Nat) (o e0 : Addr) (w : Int32) (bd : Nat) : Prop := ∃ (v0 : Value) (aw dm : Int32), (w = 0 ∧ Ob Z h o v0 (.int aw) .null (.int dm)) ∨
  (w = 1 ∧ ∃ (b : Addr) (mo : Int32), Ob Z h o v0 (.int aw) (.ref b) (.int dm) ∧ n0 ≤ b ∧ o ≠ b ∧ (Al Z h b (.int mo) (.ref e0) (.int (0 : Int32)) ∨ ∃ (e : Addr) (ke : ClassId) (vs : List Value) (sz : Nat), Al Z h b (.int mo) (.ref e) (.int (Int32.ofNat sz)) ∧ sz ≤ bd ∧ n0 ≤ e ∧ o ≠ e ∧ b ≠ e ∧ vs.length = 10 ∧ Arv Z h e ke (.object "java/lang/Object") (10 : Int32) vs .null ∧ Ovr Z ke "java/lang/Object"))
abbrev QHol (Z : State) (r0 : Addr) (e0 : Addr) (w : Int32) (bd : Nat) (h0 : Heap) (n0 : Nat) (v : Option Value) (h : Heap) (L : List Loc) : Prop := v = some (.int w) ∧ Fr n0 L ∧ h = h0
set_option maxRecDepth 65536 in
set_option maxHeartbeats 40000000 in
theorem rmHol (l : Launch) (Z : State) (a0 : Array Value) (hw : ∀ d ∈ tables_1, d.before a0 Z = true) (ws : List Jvm.Cond) (r0 : Addr) (e0 : Addr) (w : Int32) (bd : Nat) (h0 : Heap) (n0 : Nat) (Z0 : n0 ≤ h0.size) (HS0 : HS Z h0 n0 r0 e0 w bd) :
    MetFree l (⟨"com/example/ballast/ballast/runtime/Outbox", "isHolding", "()Z"⟩ : MethodName) (head1 (Jvm.Cond.code (⟨"com/example/ballast/ballast/runtime/Outbox", "isHolding", "()Z"⟩ : MethodName) prog_120_method_7_code 1 (some .boolean) :: ws) ({ frames := 0, cells := 0, slots := 0, locals := 0 } : Room)) (fun a U => a = #[(.ref r0)] ∧ Z.Warmed39 U.vm ∧ U.heap = h0) (fun _ _ _ _ _ => True) (fun _ U o U' => ∃ v L, o = .returned v ∧ QHol Z r0 e0 w bd h0 n0 v U'.heap L ∧ FrameEnd U o U' L 0 0) := by
  refine MetFree.of_bodySF (plainFor_of_name pn_3) hisR ?_
  intro p ev s m args below meth c s₁ Bd hml0 hP hK
  obtain ⟨rfl, hZ, hh⟩ := hP
  have hx := Bd.exec
  have hby := Bd.bytes
  have hml : c.maxLocals = 1 := hml0
  have hown : s.vm.findClass "com/example/ballast/ballast/runtime/Outbox" = some m.cls := findClass_of_methodNamed Bd.named
  have hnm := (name_of_methodNamed Bd.named Bd.method).1
  have X0 : Stand p l ev ({ frames := 0, cells := 0, slots := 0, locals := 0 } : Room) s m #[(.ref r0)] below meth c s₁ [] 0 0 := Stand.of_body Bd
  have eh0 : s₁.heap = h0 := by rw [← hh, Bd.state]; rfl
  have N0 := Fr.nil n0
  have Zs := Z0
  show Gol p ev below (FrameEnd s) (QHol Z r0 e0 w bd h0 n0) 0 0 (s₁.setTop (entryFrame m #[(.ref r0)] 1))
  rw [ef_3]
  show GolF _ _ _ _ _ _ _ s₁ m 0 #[.val (.ref r0)] []
  obtain ⟨v0, aw, dm, ⟨rfl, O1⟩ | ⟨rfl, hb, mo, O1, g_hb, ne_r0_hb, O2 | ⟨e, ke, vs, sz, O2, hsz, g_e, ne_r0_e, ne_hb_e, hlen, V_e, ov⟩⟩⟩ := HS0
  · skip
    obtain ⟨E_r0, F_r0_lastSent, F_r0_awaitingFlush, F_r0_held, F_r0_deferredMove⟩ := O1
    show GolF _ _ _ _ _ _ _ s₁ m 0 #[.val (.ref r0)] []
    refine Gol.aloadN X0 hx hby d3_0 (pc' := 1) rfl rfl rfl ?_
    refine Gol.getF X0 hx hby hZ hown (host := "") (Or.inl (hw _ (List.mem_of_getElem? (i := 19) rfl))) Via.refl eh0 F_r0_held d3_1 (pc' := 4) rfl ?_
    intro T1 X1 e1
    refine Gol.ifnullYes X1 hx hby d3_4 (pc' := 11) (by decide) ?_
    refine Gol.iconst X1 hx hby d3_11 (pc' := 12) rfl (z := (0 : Int32)) rfl ?_
    exact Gol.retN X1 hx hby (t := .boolean) Bd.returns (by simp) Bd.notSynchronized d3_12 e1 ⟨rfl, N0, rfl⟩ (by decide) (by decide)
  · skip
    obtain ⟨E_r0, F_r0_lastSent, F_r0_awaitingFlush, F_r0_held, F_r0_deferredMove⟩ := O1
    obtain ⟨E_hb, F_hb_modCount, F_hb_elementData, F_hb_size⟩ := O2
    show GolF _ _ _ _ _ _ _ s₁ m 0 #[.val (.ref r0)] []
    refine Gol.aloadN X0 hx hby d3_0 (pc' := 1) rfl rfl rfl ?_
    refine Gol.getF X0 hx hby hZ hown (host := "") (Or.inl (hw _ (List.mem_of_getElem? (i := 19) rfl))) Via.refl eh0 F_r0_held d3_1 (pc' := 4) rfl ?_
    intro T2 X2 e2
    refine Gol.ifnullNo X2 hx hby d3_4 (pc' := 7) rfl ?_
    refine Gol.iconst X2 hx hby d3_7 (pc' := 8) rfl (z := (1 : Int32)) rfl ?_
    refine Gol.goto X2 hx hby d3_8 (pc' := 12) (by decide) ?_
    exact Gol.retN X2 hx hby (t := .boolean) Bd.returns (by simp) Bd.notSynchronized d3_12 e2 ⟨rfl, N0, rfl⟩ (by decide) (by decide)
  · skip
    obtain ⟨E_r0, F_r0_lastSent, F_r0_awaitingFlush, F_r0_held, F_r0_deferredMove⟩ := O1
    obtain ⟨E_hb, F_hb_modCount, F_hb_elementData, F_hb_size⟩ := O2
    show GolF _ _ _ _ _ _ _ s₁ m 0 #[.val (.ref r0)] []
    refine Gol.aloadN X0 hx hby d3_0 (pc' := 1) rfl rfl rfl ?_
    refine Gol.getF X0 hx hby hZ hown (host := "") (Or.inl (hw _ (List.mem_of_getElem? (i := 19) rfl))) Via.refl eh0 F_r0_held d3_1 (pc' := 4) rfl ?_
    intro T3 X3 e3
    refine Gol.ifnullNo X3 hx hby d3_4 (pc' := 7) rfl ?_
    refine Gol.iconst X3 hx hby d3_7 (pc' := 8) rfl (z := (1 : Int32)) rfl ?_
    refine Gol.goto X3 hx hby d3_8 (pc' := 12) (by decide) ?_
    exact Gol.retN X3 hx hby (t := .boolean) Bd.returns (by simp) Bd.notSynchronized d3_12 e3 ⟨rfl, N0, rfl⟩ (by decide) (by decide)
theorem d4_0 : decode method_2_code 0 = .ok (.iload_n 2, 1) := by decide +kernel
theorem d4_1 : decode method_2_code 1 = .ok (.bipush 7, 2) := by decide +kernel
theorem d4_3 : decode method_2_code 3 = .ok (.iand, 1) := by decide +kernel
theorem d4_4 : decode method_2_code 4 = .ok (.istore 5, 2) := by decide +kernel
theorem d4_6 : decode method_2_code 6 = .ok (.iload 5, 2) := by decide +kernel
theorem d4_8 : decode method_2_code 8 = .ok (.ifCond .ne 9, 3) := by decide +kernel
theorem d4_11 : decode method_2_code 11 = .ok (.aload_n 0, 1) := by decide +kernel
theorem d4_12 : decode method_2_code 12 = .ok (.invokevirtual 7, 3) := by decide +kernel
theorem d4_15 : decode method_2_code 15 = .ok (.iconst 1, 1) := by decide +kernel
theorem d4_16 : decode method_2_code 16 = .ok (.ireturn, 1) := by decide +kernel
theorem d4_17 : decode method_2_code 17 = .ok (.iload 5, 2) := by decide +kernel
theorem d4_19 : decode method_2_code 19 = .ok (.iconst 1, 1) := by decide +kernel
theorem d4_20 : decode method_2_code 20 = .ok (.if_icmp .ne 10, 3) := by decide +kernel
theorem d4_23 : decode method_2_code 23 = .ok (.aload_n 0, 1) := by decide +kernel
theorem d4_24 : decode method_2_code 24 = .ok (.invokevirtual 12, 3) := by decide +kernel
theorem d4_27 : decode method_2_code 27 = .ok (.pop, 1) := by decide +kernel
theorem d4_28 : decode method_2_code 28 = .ok (.iconst 0, 1) := by decide +kernel
theorem d4_29 : decode method_2_code 29 = .ok (.ireturn, 1) := by decide +kernel
theorem d4_30 : decode method_2_code 30 = .ok (.iload 5, 2) := by decide +kernel
theorem d4_32 : decode method_2_code 32 = .ok (.iconst 2, 1) := by decide +kernel
theorem d4_33 : decode method_2_code 33 = .ok (.if_icmp .ne 10, 3) := by decide +kernel
theorem d4_36 : decode method_2_code 36 = .ok (.aload_n 0, 1) := by decide +kernel
theorem d4_37 : decode method_2_code 37 = .ok (.lload_n 3, 1) := by decide +kernel
theorem d4_38 : decode method_2_code 38 = .ok (.invokevirtual 16, 3) := by decide +kernel
theorem d4_41 : decode method_2_code 41 = .ok (.iload_n 1, 1) := by decide +kernel
theorem d4_42 : decode method_2_code 42 = .ok (.ireturn, 1) := by decide +kernel
theorem d4_43 : decode method_2_code 43 = .ok (.iload 5, 2) := by decide +kernel
theorem d4_45 : decode method_2_code 45 = .ok (.iconst 3, 1) := by decide +kernel
theorem d4_46 : decode method_2_code 46 = .ok (.if_icmp .ne 11, 3) := by decide +kernel
theorem d4_49 : decode method_2_code 49 = .ok (.aload_n 0, 1) := by decide +kernel
theorem d4_50 : decode method_2_code 50 = .ok (.lload_n 3, 1) := by decide +kernel
theorem d4_51 : decode method_2_code 51 = .ok (.l2i, 1) := by decide +kernel
theorem d4_52 : decode method_2_code 52 = .ok (.invokevirtual 20, 3) := by decide +kernel
theorem d4_55 : decode method_2_code 55 = .ok (.iload_n 1, 1) := by decide +kernel
theorem d4_56 : decode method_2_code 56 = .ok (.ireturn, 1) := by decide +kernel
theorem d4_57 : decode method_2_code 57 = .ok (.iload 5, 2) := by decide +kernel
theorem d4_59 : decode method_2_code 59 = .ok (.iconst 4, 1) := by decide +kernel
theorem d4_60 : decode method_2_code 60 = .ok (.if_icmp .ne 10, 3) := by decide +kernel
theorem d4_63 : decode method_2_code 63 = .ok (.aload_n 0, 1) := by decide +kernel
theorem d4_64 : decode method_2_code 64 = .ok (.invokevirtual 24, 3) := by decide +kernel
theorem d4_67 : decode method_2_code 67 = .ok (.pop, 1) := by decide +kernel
theorem d4_68 : decode method_2_code 68 = .ok (.iload_n 1, 1) := by decide +kernel
theorem d4_69 : decode method_2_code 69 = .ok (.ireturn, 1) := by decide +kernel
theorem d4_70 : decode method_2_code 70 = .ok (.iload 5, 2) := by decide +kernel
theorem d4_72 : decode method_2_code 72 = .ok (.iconst 5, 1) := by decide +kernel
theorem d4_73 : decode method_2_code 73 = .ok (.if_icmp .ne 10, 3) := by decide +kernel
theorem d4_76 : decode method_2_code 76 = .ok (.aload_n 0, 1) := by decide +kernel
theorem d4_77 : decode method_2_code 77 = .ok (.invokevirtual 28, 3) := by decide +kernel
theorem d4_80 : decode method_2_code 80 = .ok (.pop, 1) := by decide +kernel
theorem d4_81 : decode method_2_code 81 = .ok (.iload_n 1, 1) := by decide +kernel
theorem d4_82 : decode method_2_code 82 = .ok (.ireturn, 1) := by decide +kernel
theorem d4_83 : decode method_2_code 83 = .ok (.iload 5, 2) := by decide +kernel
theorem d4_85 : decode method_2_code 85 = .ok (.bipush 6, 2) := by decide +kernel
theorem d4_87 : decode method_2_code 87 = .ok (.if_icmp .ne 9, 3) := by decide +kernel
theorem d4_90 : decode method_2_code 90 = .ok (.aload_n 0, 1) := by decide +kernel
theorem d4_91 : decode method_2_code 91 = .ok (.invokevirtual 32, 3) := by decide +kernel
theorem d4_94 : decode method_2_code 94 = .ok (.iload_n 1, 1) := by decide +kernel
theorem d4_95 : decode method_2_code 95 = .ok (.ireturn, 1) := by decide +kernel
theorem d4_96 : decode method_2_code 96 = .ok (.iload_n 1, 1) := by decide +kernel
theorem d4_97 : decode method_2_code 97 = .ok (.ifCond .eq 11, 3) := by decide +kernel
theorem d4_100 : decode method_2_code 100 = .ok (.aload_n 0, 1) := by decide +kernel
theorem d4_101 : decode method_2_code 101 = .ok (.aconst_null, 1) := by decide +kernel
theorem d4_102 : decode method_2_code 102 = .ok (.aconst_null, 1) := by decide +kernel
theorem d4_103 : decode method_2_code 103 = .ok (.invokevirtual 35, 3) := by decide +kernel
theorem d4_106 : decode method_2_code 106 = .ok (.iconst 1, 1) := by decide +kernel
theorem d4_107 : decode method_2_code 107 = .ok (.ireturn, 1) := by decide +kernel
theorem d4_108 : decode method_2_code 108 = .ok (.aload_n 0, 1) := by decide +kernel
theorem d4_109 : decode method_2_code 109 = .ok (.invokevirtual 12, 3) := by decide +kernel
theorem d4_112 : decode method_2_code 112 = .ok (.pop, 1) := by decide +kernel
theorem d4_113 : decode method_2_code 113 = .ok (.iconst 0, 1) := by decide +kernel
theorem d4_114 : decode method_2_code 114 = .ok (.ireturn, 1) := by decide +kernel
theorem pn_4 : plainName "com/example/ballast/ballast/runtime/OutboxIsHoldingPinLaw" = true := by first | (simp [plainName, overriddenIn]; done) | decide +kernel
theorem ef_4 (m : MethodId) (r0 : Addr) (p1 : Int32) (p2 : Int32) (q3 : Int64) : entryFrame m #[(.ref r0), (.int p1), (.int p2), (.long q3)] 6 = mkF m 0 #[.val (.ref r0), .val (.int p1), .val (.int p2), .val (.long q3), .second, .unset] [] := by first | (simp [entryFrame, mkF, argsToLocals, Value.category]; done) | rfl
abbrev QApply (Z : State) (r0 : Addr) (p1 : Int32) (p2 : Int32) (q3 : Int64) (bd : Nat) (e0 : Addr) (k0 : ClassId) (h0 : Heap) (n0 : Nat) (v : Option Value) (h : Heap) (L : List Loc) : Prop := ∃ w : Int32, v = some (.int w) ∧ Fr n0 L ∧ h0.size ≤ h.size ∧ Old Z n0 h ∧ HS Z h n0 r0 e0 w (bd + 1)
set_option maxRecDepth 65536 in
set_option maxHeartbeats 40000000 in
theorem rmApply (l : Launch) (Z : State) (a0 : Array Value) (hw : ∀ d ∈ tables_1, d.before a0 Z = true) (ws : List Jvm.Cond) (r0 : Addr) (p1 : Int32) (p2 : Int32) (q3 : Int64) (bd : Nat) (e0 : Addr) (k0 : ClassId) (h0 : Heap) (n0 : Nat) (Z0 : n0 ≤ h0.size) (hbd : bd < 9) (g_r0 : n0 ≤ r0) (HS0 : HS Z h0 n0 r0 e0 p1 bd) (S0 : Sta Z Z.heap "java/util/ArrayList" "DEFAULTCAPACITY_EMPTY_ELEMENTDATA" "[Ljava/lang/Object;" (.ref e0)) (V0 : Arv Z Z.heap e0 k0 (.object "java/lang/Object") (0 : Int32) [] .null) (O : Old Z n0 h0) :
    MetFree l (⟨"com/example/ballast/ballast/runtime/OutboxIsHoldingPinLaw", "apply", "(Lcom/example/ballast/ballast/runtime/Outbox;ZIJ)Z"⟩ : MethodName) (head1 (Jvm.Cond.code (⟨"com/example/ballast/ballast/runtime/OutboxIsHoldingPinLaw", "apply", "(Lcom/example/ballast/ballast/runtime/Outbox;ZIJ)Z"⟩ : MethodName) method_2_code 6 (some .boolean) :: ws) ({ frames := 6, cells := 2, slots := 12, locals := 83 } : Room)) (fun a U => a = #[(.ref r0), (.int p1), (.int p2), (.long q3)] ∧ Z.Warmed39 U.vm ∧ U.heap = h0) (fun _ _ _ _ _ => True) (fun _ U o U' => ∃ v L, o = .returned v ∧ QApply Z r0 p1 p2 q3 bd e0 k0 h0 n0 v U'.heap L ∧ FrameEnd U o U' L 2 12) := by
  refine MetFree.of_bodySF (plainFor_of_name pn_4) hisR ?_
  intro p ev s m args below meth c s₁ Bd hml0 hP hK
  obtain ⟨rfl, hZ, hh⟩ := hP
  have hx := Bd.exec
  have hby := Bd.bytes
  have hml : c.maxLocals = 6 := hml0
  have hown : s.vm.findClass "com/example/ballast/ballast/runtime/OutboxIsHoldingPinLaw" = some m.cls := findClass_of_methodNamed Bd.named
  have hnm := (name_of_methodNamed Bd.named Bd.method).1
  have X0 : Stand p l ev ({ frames := 6, cells := 2, slots := 12, locals := 83 } : Room) s m #[(.ref r0), (.int p1), (.int p2), (.long q3)] below meth c s₁ [] 0 0 := Stand.of_body Bd
  have eh0 : s₁.heap = h0 := by rw [← hh, Bd.state]; rfl
  have N0 := Fr.nil n0
  have Zs := Z0
  show Gol p ev below (FrameEnd s) (QApply Z r0 p1 p2 q3 bd e0 k0 h0 n0) 2 12 (s₁.setTop (entryFrame m #[(.ref r0), (.int p1), (.int p2), (.long q3)] 6))
  rw [ef_4]
  have Zk := Nat.le_refl h0.size
  show GolF _ _ _ _ _ _ _ s₁ m 0 #[.val (.ref r0), .val (.int p1), .val (.int p2), .val (.long q3), .second, .unset] []
  obtain ⟨v0, aw, dm, ⟨rfl, O1⟩ | ⟨rfl, hb, mo, O1, g_hb, ne_r0_hb, O2 | ⟨e, ke, vs, sz, O2, hsz, g_e, ne_r0_e, ne_hb_e, hlen, V_e, ov⟩⟩⟩ := HS0
  · skip
    obtain ⟨E_r0, F_r0_lastSent, F_r0_awaitingFlush, F_r0_held, F_r0_deferredMove⟩ := O1
    show GolF _ _ _ _ _ _ _ s₁ m 0 #[.val (.ref r0), .val (.int (0 : Int32)), .val (.int p2), .val (.long q3), .second, .unset] []
    refine Gol.iloadN X0 hx hby d4_0 (pc' := 1) rfl rfl ?_
    refine Gol.bipush X0 hx hby d4_1 (pc' := 3) rfl (z := (7 : Int32)) rfl ?_
    refine Gol.iand X0 hx hby d4_3 (pc' := 4) rfl rfl ?_
    refine Gol.istore X0 hx hby d4_4 (pc' := 6) rfl (l' := #[.val (.ref r0), .val (.int (0 : Int32)), .val (.int p2), .val (.long q3), .second, .val (.int (p2 &&& (7 : Int32)))]) rfl ?_
    refine Gol.iload X0 hx hby d4_6 (pc' := 8) rfl rfl ?_
    by_cases hc8_1 : (p2 &&& (7 : Int32)) = (0 : Int32)
    · skip
      refine Gol.ifNo X0 hx hby d4_8 (pc' := 11) rfl ((if0 _ _).trans (teq hc8_1).2) ?_
      refine Gol.aloadN X0 hx hby d4_11 (pc' := 12) rfl rfl rfl ?_
      refine Gol.callV X0 hx hby hZ hown 0 [] (a := r0) (hw _ (List.mem_of_getElem? (i := 25) rfl)) (hw _ (List.mem_of_getElem? (i := 26) rfl)) (notFace_of_selects (args := #[]) (mvT hZ (hw _ (List.mem_of_getElem? (i := 28) rfl)))) (hw _ (List.mem_of_getElem? (i := 28) rfl)) (hw _ (List.mem_of_getElem? (i := 27) rfl)) (hw _ (List.mem_of_getElem? (i := 2) rfl)) (hw _ (List.mem_of_getElem? (i := 29) rfl)) (by decide) E_r0 (rmHur l Z a0 hw [] r0 v0 (.int aw) .null (.int dm) e0 k0 h0 n0 Zs ⟨E_r0, F_r0_lastSent, F_r0_awaitingFlush, F_r0_held, F_r0_deferredMove⟩ g_r0 S0 V0 O) (by decide) (by decide) eh0 (by rw [hml]; rfl) (rest := []) (Nat.le_of_eq rfl) (by decide) (by decide) (lenOf pd_0 rfl) rfl d4_12 (pc' := 15) rfl ?_
      intro T2 v2 L2 X2 hQ2
      obtain ⟨rfl, Nq2, Kq2, b2, hb2, Oq2, Lq2⟩ := hQ2
      have N2 := Fr.app N0 Nq2
      have lo_r0_b2 : r0 < b2 := Nat.lt_of_lt_of_le E_r0.lt hb2
      have ne_r0_b2 : r0 ≠ b2 := Nat.ne_of_lt lo_r0_b2
      have g_b2 : n0 ≤ b2 := Nat.le_trans Zs hb2
      have E_r0 := E_r0.keep Kq2
      have O := O.keep Kq2 (allS g_r0 all0)
      have Zs := Nat.le_trans Zs Kq2.1
      show GolF _ _ _ _ _ _ _ T2 m 15 #[.val (.ref r0), .val (.int (0 : Int32)), .val (.int p2), .val (.long q3), .second, .val (.int (p2 &&& (7 : Int32)))] []
      have Zk := Nat.le_trans Zk Kq2.1
      obtain ⟨E_r0, F_r0_lastSent, F_r0_awaitingFlush, F_r0_held, F_r0_deferredMove⟩ := Oq2
      obtain ⟨E_b2, F_b2_modCount, F_b2_elementData, F_b2_size⟩ := Lq2
      refine Gol.iconst X2 hx hby d4_15 (pc' := 16) rfl (z := (1 : Int32)) rfl ?_
      exact Gol.retN X2 hx hby (t := .boolean) Bd.returns (by simp) Bd.notSynchronized d4_16 rfl ⟨(1 : Int32), rfl, N2, Zk, O, ⟨v0, aw, dm, Or.inr ⟨rfl, b2, (0 : Int32), ⟨E_r0, F_r0_lastSent, F_r0_awaitingFlush, F_r0_held, F_r0_deferredMove⟩, g_b2, ne_r0_b2, Or.inl ⟨E_b2, F_b2_modCount, F_b2_elementData, F_b2_size⟩⟩⟩⟩ (by decide) (by decide)
    · skip
      refine Gol.ifYes X0 hx hby d4_8 (pc' := 17) (by decide) ((if0 _ _).trans (feq hc8_1).2) ?_
      refine Gol.iload X0 hx hby d4_17 (pc' := 19) rfl rfl ?_
      refine Gol.iconst X0 hx hby d4_19 (pc' := 20) rfl (z := (1 : Int32)) rfl ?_
      by_cases hc20_3 : (p2 &&& (7 : Int32)) = (1 : Int32)
      · skip
        refine Gol.icmpNo X0 hx hby d4_20 (pc' := 23) rfl (teq hc20_3).2 ?_
        refine Gol.aloadN X0 hx hby d4_23 (pc' := 24) rfl rfl rfl ?_
        refine Gol.callV X0 hx hby hZ hown 0 [] (a := r0) (hw _ (List.mem_of_getElem? (i := 69) rfl)) (hw _ (List.mem_of_getElem? (i := 70) rfl)) (notFace_of_selects (args := #[]) (mvT hZ (hw _ (List.mem_of_getElem? (i := 72) rfl)))) (hw _ (List.mem_of_getElem? (i := 72) rfl)) (hw _ (List.mem_of_getElem? (i := 71) rfl)) (hw _ (List.mem_of_getElem? (i := 2) rfl)) (hw _ (List.mem_of_getElem? (i := 73) rfl)) (by decide) E_r0 (rmRelN l Z a0 hw [] r0 v0 (.int aw) (.int dm) h0 n0 Zs ⟨E_r0, F_r0_lastSent, F_r0_awaitingFlush, F_r0_held, F_r0_deferredMove⟩ g_r0) (by decide) (by decide) eh0 (by rw [hml]; rfl) (rest := []) (Nat.le_of_eq rfl) (by decide) (by decide) (lenOf pd_7 rfl) rfl d4_24 (pc' := 27) rfl ?_
        intro T4 v4 L4 X4 hQ4
        obtain ⟨rfl, Nq4, Kq4, Oq4⟩ := hQ4
        have N4 := Fr.app N0 Nq4
        have E_r0 := E_r0.keep Kq4
        have O := O.keep Kq4 (allS g_r0 all0)
        have Zs := Nat.le_trans Zs Kq4.1
        show GolF _ _ _ _ _ _ _ T4 m 27 #[.val (.ref r0), .val (.int (0 : Int32)), .val (.int p2), .val (.long q3), .second, .val (.int (p2 &&& (7 : Int32)))] [.null]
        have Zk := Nat.le_trans Zk Kq4.1
        obtain ⟨E_r0, F_r0_lastSent, F_r0_awaitingFlush, F_r0_held, F_r0_deferredMove⟩ := Oq4
        refine Gol.pop X4 hx hby d4_27 (pc' := 28) rfl rfl ?_
        refine Gol.iconst X4 hx hby d4_28 (pc' := 29) rfl (z := (0 : Int32)) rfl ?_
        exact Gol.retN X4 hx hby (t := .boolean) Bd.returns (by simp) Bd.notSynchronized d4_29 rfl ⟨(0 : Int32), rfl, N4, Zk, O, ⟨v0, aw, dm, Or.inl ⟨rfl, ⟨E_r0, F_r0_lastSent, F_r0_awaitingFlush, F_r0_held, F_r0_deferredMove⟩⟩⟩⟩ (by decide) (by decide)
      · skip
        refine Gol.icmpYes X0 hx hby d4_20 (pc' := 30) (by decide) (feq hc20_3).2 ?_
        refine Gol.iload X0 hx hby d4_30 (pc' := 32) rfl rfl ?_
        refine Gol.iconst X0 hx hby d4_32 (pc' := 33) rfl (z := (2 : Int32)) rfl ?_
        by_cases hc33_5 : (p2 &&& (7 : Int32)) = (2 : Int32)
        · skip
          refine Gol.icmpNo X0 hx hby d4_33 (pc' := 36) rfl (teq hc33_5).2 ?_
          refine Gol.aloadN X0 hx hby d4_36 (pc' := 37) rfl rfl rfl ?_
          refine Gol.lloadN X0 hx hby d4_37 (pc' := 38) rfl rfl ?_
          refine Gol.callV X0 hx hby hZ hown 0 [(.long q3)] (a := r0) (hw _ (List.mem_of_getElem? (i := 59) rfl)) (hw _ (List.mem_of_getElem? (i := 60) rfl)) (notFace_of_selects (args := #[]) (mvT hZ (hw _ (List.mem_of_getElem? (i := 62) rfl)))) (hw _ (List.mem_of_getElem? (i := 62) rfl)) (hw _ (List.mem_of_getElem? (i := 61) rfl)) (hw _ (List.mem_of_getElem? (i := 2) rfl)) (hw _ (List.mem_of_getElem? (i := 63) rfl)) (by decide) E_r0 (rmSent l Z a0 hw [] r0 q3 v0 (.int aw) .null (.int dm) h0 n0 Zs ⟨E_r0, F_r0_lastSent, F_r0_awaitingFlush, F_r0_held, F_r0_deferredMove⟩ g_r0) (by decide) (by decide) eh0 (by rw [hml]; rfl) (rest := []) (Nat.le_of_eq rfl) (by decide) (by decide) (lenOf pd_8 rfl) rfl d4_38 (pc' := 41) rfl ?_
          intro T6 v6 L6 X6 hQ6
          obtain ⟨rfl, Nq6, Kq6, Oq6⟩ := hQ6
          have N6 := Fr.app N0 Nq6
          have E_r0 := E_r0.keep Kq6
          have O := O.keep Kq6 (allS g_r0 all0)
          have Zs := Nat.le_trans Zs Kq6.1
          show GolF _ _ _ _ _ _ _ T6 m 41 #[.val (.ref r0), .val (.int (0 : Int32)), .val (.int p2), .val (.long q3), .second, .val (.int (p2 &&& (7 : Int32)))] []
          have Zk := Nat.le_trans Zk Kq6.1
          obtain ⟨E_r0, F_r0_lastSent, F_r0_awaitingFlush, F_r0_held, F_r0_deferredMove⟩ := Oq6
          refine Gol.iloadN X6 hx hby d4_41 (pc' := 42) rfl rfl ?_
          exact Gol.retN X6 hx hby (t := .boolean) Bd.returns (by simp) Bd.notSynchronized d4_42 rfl ⟨(0 : Int32), rfl, N6, Zk, O, ⟨(.long q3), aw, dm, Or.inl ⟨rfl, ⟨E_r0, F_r0_lastSent, F_r0_awaitingFlush, F_r0_held, F_r0_deferredMove⟩⟩⟩⟩ (by decide) (by decide)
        · skip
          refine Gol.icmpYes X0 hx hby d4_33 (pc' := 43) (by decide) (feq hc33_5).2 ?_
          refine Gol.iload X0 hx hby d4_43 (pc' := 45) rfl rfl ?_
          refine Gol.iconst X0 hx hby d4_45 (pc' := 46) rfl (z := (3 : Int32)) rfl ?_
          by_cases hc46_7 : (p2 &&& (7 : Int32)) = (3 : Int32)
          · skip
            refine Gol.icmpNo X0 hx hby d4_46 (pc' := 49) rfl (teq hc46_7).2 ?_
            refine Gol.aloadN X0 hx hby d4_49 (pc' := 50) rfl rfl rfl ?_
            refine Gol.lloadN X0 hx hby d4_50 (pc' := 51) rfl rfl ?_
            refine Gol.l2i X0 hx hby d4_51 (pc' := 52) rfl rfl ?_
            refine Gol.callV X0 hx hby hZ hown 0 [(.int (q3.toInt32))] (a := r0) (hw _ (List.mem_of_getElem? (i := 54) rfl)) (hw _ (List.mem_of_getElem? (i := 55) rfl)) (notFace_of_selects (args := #[]) (mvT hZ (hw _ (List.mem_of_getElem? (i := 57) rfl)))) (hw _ (List.mem_of_getElem? (i := 57) rfl)) (hw _ (List.mem_of_getElem? (i := 56) rfl)) (hw _ (List.mem_of_getElem? (i := 2) rfl)) (hw _ (List.mem_of_getElem? (i := 58) rfl)) (by decide) E_r0 (rmDefer l Z a0 hw [] r0 (q3.toInt32) v0 (.int aw) .null (.int dm) h0 n0 Zs ⟨E_r0, F_r0_lastSent, F_r0_awaitingFlush, F_r0_held, F_r0_deferredMove⟩ g_r0) (by decide) (by decide) eh0 (by rw [hml]; rfl) (rest := []) (Nat.le_of_eq rfl) (by decide) (by decide) (lenOf pd_9 rfl) rfl d4_52 (pc' := 55) rfl ?_
            intro T8 v8 L8 X8 hQ8
            obtain ⟨rfl, Nq8, Kq8, Oq8⟩ := hQ8
            have N8 := Fr.app N0 Nq8
            have E_r0 := E_r0.keep Kq8
            have O := O.keep Kq8 (allS g_r0 all0)
            have Zs := Nat.le_trans Zs Kq8.1
            show GolF _ _ _ _ _ _ _ T8 m 55 #[.val (.ref r0), .val (.int (0 : Int32)), .val (.int p2), .val (.long q3), .second, .val (.int (p2 &&& (7 : Int32)))] []
            have Zk := Nat.le_trans Zk Kq8.1
            obtain ⟨E_r0, F_r0_lastSent, F_r0_awaitingFlush, F_r0_held, F_r0_deferredMove⟩ := Oq8
            refine Gol.iloadN X8 hx hby d4_55 (pc' := 56) rfl rfl ?_
            exact Gol.retN X8 hx hby (t := .boolean) Bd.returns (by simp) Bd.notSynchronized d4_56 rfl ⟨(0 : Int32), rfl, N8, Zk, O, ⟨v0, aw, (q3.toInt32), Or.inl ⟨rfl, ⟨E_r0, F_r0_lastSent, F_r0_awaitingFlush, F_r0_held, F_r0_deferredMove⟩⟩⟩⟩ (by decide) (by decide)
          · skip
            refine Gol.icmpYes X0 hx hby d4_46 (pc' := 57) (by decide) (feq hc46_7).2 ?_
            refine Gol.iload X0 hx hby d4_57 (pc' := 59) rfl rfl ?_
            refine Gol.iconst X0 hx hby d4_59 (pc' := 60) rfl (z := (4 : Int32)) rfl ?_
            by_cases hc60_9 : (p2 &&& (7 : Int32)) = (4 : Int32)
            · skip
              refine Gol.icmpNo X0 hx hby d4_60 (pc' := 63) rfl (teq hc60_9).2 ?_
              refine Gol.aloadN X0 hx hby d4_63 (pc' := 64) rfl rfl rfl ?_
              refine Gol.callV X0 hx hby hZ hown 0 [] (a := r0) (hw _ (List.mem_of_getElem? (i := 64) rfl)) (hw _ (List.mem_of_getElem? (i := 65) rfl)) (notFace_of_selects (args := #[]) (mvT hZ (hw _ (List.mem_of_getElem? (i := 67) rfl)))) (hw _ (List.mem_of_getElem? (i := 67) rfl)) (hw _ (List.mem_of_getElem? (i := 66) rfl)) (hw _ (List.mem_of_getElem? (i := 2) rfl)) (hw _ (List.mem_of_getElem? (i := 68) rfl)) (by decide) E_r0 (rmTake l Z a0 hw [] r0 v0 (.int aw) .null dm h0 n0 Zs ⟨E_r0, F_r0_lastSent, F_r0_awaitingFlush, F_r0_held, F_r0_deferredMove⟩ g_r0) (by decide) (by decide) eh0 (by rw [hml]; rfl) (rest := []) (Nat.le_of_eq rfl) (by decide) (by decide) (lenOf pd_10 rfl) rfl d4_64 (pc' := 67) rfl ?_
              intro T10 v10 L10 X10 hQ10
              obtain ⟨rfl, Nq10, Kq10, Oq10⟩ := hQ10
              have N10 := Fr.app N0 Nq10
              have E_r0 := E_r0.keep Kq10
              have O := O.keep Kq10 (allS g_r0 all0)
              have Zs := Nat.le_trans Zs Kq10.1
              show GolF _ _ _ _ _ _ _ T10 m 67 #[.val (.ref r0), .val (.int (0 : Int32)), .val (.int p2), .val (.long q3), .second, .val (.int (p2 &&& (7 : Int32)))] [(.int dm)]
              have Zk := Nat.le_trans Zk Kq10.1
              obtain ⟨E_r0, F_r0_lastSent, F_r0_awaitingFlush, F_r0_held, F_r0_deferredMove⟩ := Oq10
              refine Gol.pop X10 hx hby d4_67 (pc' := 68) rfl rfl ?_
              refine Gol.iloadN X10 hx hby d4_68 (pc' := 69) rfl rfl ?_
              exact Gol.retN X10 hx hby (t := .boolean) Bd.returns (by simp) Bd.notSynchronized d4_69 rfl ⟨(0 : Int32), rfl, N10, Zk, O, ⟨v0, aw, (-1 : Int32), Or.inl ⟨rfl, ⟨E_r0, F_r0_lastSent, F_r0_awaitingFlush, F_r0_held, F_r0_deferredMove⟩⟩⟩⟩ (by decide) (by decide)
            · skip
              refine Gol.icmpYes X0 hx hby d4_60 (pc' := 70) (by decide) (feq hc60_9).2 ?_
              refine Gol.iload X0 hx hby d4_70 (pc' := 72) rfl rfl ?_
              refine Gol.iconst X0 hx hby d4_72 (pc' := 73) rfl (z := (5 : Int32)) rfl ?_
              by_cases hc73_11 : (p2 &&& (7 : Int32)) = (5 : Int32)
              · skip
                refine Gol.icmpNo X0 hx hby d4_73 (pc' := 76) rfl (teq hc73_11).2 ?_
                refine Gol.aloadN X0 hx hby d4_76 (pc' := 77) rfl rfl rfl ?_
                refine Gol.callV X0 hx hby hZ hown 0 [] (a := r0) (hw _ (List.mem_of_getElem? (i := 74) rfl)) (hw _ (List.mem_of_getElem? (i := 75) rfl)) (notFace_of_selects (args := #[]) (mvT hZ (hw _ (List.mem_of_getElem? (i := 77) rfl)))) (hw _ (List.mem_of_getElem? (i := 77) rfl)) (hw _ (List.mem_of_getElem? (i := 76) rfl)) (hw _ (List.mem_of_getElem? (i := 2) rfl)) (hw _ (List.mem_of_getElem? (i := 78) rfl)) (by decide) E_r0 (rmAwait l Z a0 hw [] r0 v0 .null (.int dm) aw h0 n0 Zs ⟨E_r0, F_r0_lastSent, F_r0_awaitingFlush, F_r0_held, F_r0_deferredMove⟩ g_r0) (by decide) (by decide) eh0 (by rw [hml]; rfl) (rest := []) (Nat.le_of_eq rfl) (by decide) (by decide) (lenOf pd_11 rfl) rfl d4_77 (pc' := 80) rfl ?_
                intro T12 v12 L12 X12 hQ12
                obtain ⟨z12, az12, rfl, Nq12, Kq12, Oq12⟩ := hQ12
                have N12 := Fr.app N0 Nq12
                have E_r0 := E_r0.keep Kq12
                have O := O.keep Kq12 (allS g_r0 all0)
                have Zs := Nat.le_trans Zs Kq12.1
                show GolF _ _ _ _ _ _ _ T12 m 80 #[.val (.ref r0), .val (.int (0 : Int32)), .val (.int p2), .val (.long q3), .second, .val (.int (p2 &&& (7 : Int32)))] [(.int z12)]
                have Zk := Nat.le_trans Zk Kq12.1
                obtain ⟨E_r0, F_r0_lastSent, F_r0_awaitingFlush, F_r0_held, F_r0_deferredMove⟩ := Oq12
                refine Gol.pop X12 hx hby d4_80 (pc' := 81) rfl rfl ?_
                refine Gol.iloadN X12 hx hby d4_81 (pc' := 82) rfl rfl ?_
                exact Gol.retN X12 hx hby (t := .boolean) Bd.returns (by simp) Bd.notSynchronized d4_82 rfl ⟨(0 : Int32), rfl, N12, Zk, O, ⟨v0, az12, dm, Or.inl ⟨rfl, ⟨E_r0, F_r0_lastSent, F_r0_awaitingFlush, F_r0_held, F_r0_deferredMove⟩⟩⟩⟩ (by decide) (by decide)
              · skip
                refine Gol.icmpYes X0 hx hby d4_73 (pc' := 83) (by decide) (feq hc73_11).2 ?_
                refine Gol.iload X0 hx hby d4_83 (pc' := 85) rfl rfl ?_
                refine Gol.bipush X0 hx hby d4_85 (pc' := 87) rfl (z := (6 : Int32)) rfl ?_
                by_cases hc87_13 : (p2 &&& (7 : Int32)) = (6 : Int32)
                · skip
                  refine Gol.icmpNo X0 hx hby d4_87 (pc' := 90) rfl (teq hc87_13).2 ?_
                  refine Gol.aloadN X0 hx hby d4_90 (pc' := 91) rfl rfl rfl ?_
                  refine Gol.callV X0 hx hby hZ hown 0 [] (a := r0) (hw _ (List.mem_of_getElem? (i := 81) rfl)) (hw _ (List.mem_of_getElem? (i := 82) rfl)) (notFace_of_selects (args := #[]) (mvT hZ (hw _ (List.mem_of_getElem? (i := 84) rfl)))) (hw _ (List.mem_of_getElem? (i := 84) rfl)) (hw _ (List.mem_of_getElem? (i := 83) rfl)) (hw _ (List.mem_of_getElem? (i := 2) rfl)) (hw _ (List.mem_of_getElem? (i := 85) rfl)) (by decide) E_r0 (rmFlushed l Z a0 hw [] r0 v0 (.int aw) .null (.int dm) h0 n0 Zs ⟨E_r0, F_r0_lastSent, F_r0_awaitingFlush, F_r0_held, F_r0_deferredMove⟩ g_r0) (by decide) (by decide) eh0 (by rw [hml]; rfl) (rest := []) (Nat.le_of_eq rfl) (by decide) (by decide) (lenOf pd_0 rfl) rfl d4_91 (pc' := 94) rfl ?_
                  intro T14 v14 L14 X14 hQ14
                  obtain ⟨rfl, Nq14, Kq14, Oq14⟩ := hQ14
                  have N14 := Fr.app N0 Nq14
                  have E_r0 := E_r0.keep Kq14
                  have O := O.keep Kq14 (allS g_r0 all0)
                  have Zs := Nat.le_trans Zs Kq14.1
                  show GolF _ _ _ _ _ _ _ T14 m 94 #[.val (.ref r0), .val (.int (0 : Int32)), .val (.int p2), .val (.long q3), .second, .val (.int (p2 &&& (7 : Int32)))] []
                  have Zk := Nat.le_trans Zk Kq14.1
                  obtain ⟨E_r0, F_r0_lastSent, F_r0_awaitingFlush, F_r0_held, F_r0_deferredMove⟩ := Oq14
                  refine Gol.iloadN X14 hx hby d4_94 (pc' := 95) rfl rfl ?_
                  exact Gol.retN X14 hx hby (t := .boolean) Bd.returns (by simp) Bd.notSynchronized d4_95 rfl ⟨(0 : Int32), rfl, N14, Zk, O, ⟨v0, (0 : Int32), dm, Or.inl ⟨rfl, ⟨E_r0, F_r0_lastSent, F_r0_awaitingFlush, F_r0_held, F_r0_deferredMove⟩⟩⟩⟩ (by decide) (by decide)
                · skip
                  refine Gol.icmpYes X0 hx hby d4_87 (pc' := 96) (by decide) (feq hc87_13).2 ?_
                  refine Gol.iloadN X0 hx hby d4_96 (pc' := 97) rfl rfl ?_
                  refine Gol.ifYes X0 hx hby d4_97 (pc' := 108) (by decide) ((if0 _ _).trans (teq (by decide : (0 : Int32) = (0 : Int32))).1) ?_
                  refine Gol.aloadN X0 hx hby d4_108 (pc' := 109) rfl rfl rfl ?_
                  refine Gol.callV X0 hx hby hZ hown 0 [] (a := r0) (hw _ (List.mem_of_getElem? (i := 69) rfl)) (hw _ (List.mem_of_getElem? (i := 70) rfl)) (notFace_of_selects (args := #[]) (mvT hZ (hw _ (List.mem_of_getElem? (i := 72) rfl)))) (hw _ (List.mem_of_getElem? (i := 72) rfl)) (hw _ (List.mem_of_getElem? (i := 71) rfl)) (hw _ (List.mem_of_getElem? (i := 2) rfl)) (hw _ (List.mem_of_getElem? (i := 73) rfl)) (by decide) E_r0 (rmRelN l Z a0 hw [] r0 v0 (.int aw) (.int dm) h0 n0 Zs ⟨E_r0, F_r0_lastSent, F_r0_awaitingFlush, F_r0_held, F_r0_deferredMove⟩ g_r0) (by decide) (by decide) eh0 (by rw [hml]; rfl) (rest := []) (Nat.le_of_eq rfl) (by decide) (by decide) (lenOf pd_7 rfl) rfl d4_109 (pc' := 112) rfl ?_
                  intro T15 v15 L15 X15 hQ15
                  obtain ⟨rfl, Nq15, Kq15, Oq15⟩ := hQ15
                  have N15 := Fr.app N0 Nq15
                  have E_r0 := E_r0.keep Kq15
                  have O := O.keep Kq15 (allS g_r0 all0)
                  have Zs := Nat.le_trans Zs Kq15.1
                  show GolF _ _ _ _ _ _ _ T15 m 112 #[.val (.ref r0), .val (.int (0 : Int32)), .val (.int p2), .val (.long q3), .second, .val (.int (p2 &&& (7 : Int32)))] [.null]
                  have Zk := Nat.le_trans Zk Kq15.1
                  obtain ⟨E_r0, F_r0_lastSent, F_r0_awaitingFlush, F_r0_held, F_r0_deferredMove⟩ := Oq15
                  refine Gol.pop X15 hx hby d4_112 (pc' := 113) rfl rfl ?_
                  refine Gol.iconst X15 hx hby d4_113 (pc' := 114) rfl (z := (0 : Int32)) rfl ?_
                  exact Gol.retN X15 hx hby (t := .boolean) Bd.returns (by simp) Bd.notSynchronized d4_114 rfl ⟨(0 : Int32), rfl, N15, Zk, O, ⟨v0, aw, dm, Or.inl ⟨rfl, ⟨E_r0, F_r0_lastSent, F_r0_awaitingFlush, F_r0_held, F_r0_deferredMove⟩⟩⟩⟩ (by decide) (by decide)
  · skip
    obtain ⟨E_r0, F_r0_lastSent, F_r0_awaitingFlush, F_r0_held, F_r0_deferredMove⟩ := O1
    obtain ⟨E_hb, F_hb_modCount, F_hb_elementData, F_hb_size⟩ := O2
    show GolF _ _ _ _ _ _ _ s₁ m 0 #[.val (.ref r0), .val (.int (1 : Int32)), .val (.int p2), .val (.long q3), .second, .unset] []
    refine Gol.iloadN X0 hx hby d4_0 (pc' := 1) rfl rfl ?_
    refine Gol.bipush X0 hx hby d4_1 (pc' := 3) rfl (z := (7 : Int32)) rfl ?_
    refine Gol.iand X0 hx hby d4_3 (pc' := 4) rfl rfl ?_
    refine Gol.istore X0 hx hby d4_4 (pc' := 6) rfl (l' := #[.val (.ref r0), .val (.int (1 : Int32)), .val (.int p2), .val (.long q3), .second, .val (.int (p2 &&& (7 : Int32)))]) rfl ?_
    refine Gol.iload X0 hx hby d4_6 (pc' := 8) rfl rfl ?_
    by_cases hc8_16 : (p2 &&& (7 : Int32)) = (0 : Int32)
    · skip
      refine Gol.ifNo X0 hx hby d4_8 (pc' := 11) rfl ((if0 _ _).trans (teq hc8_16).2) ?_
      refine Gol.aloadN X0 hx hby d4_11 (pc' := 12) rfl rfl rfl ?_
      refine Gol.callV X0 hx hby hZ hown 0 [] (a := r0) (hw _ (List.mem_of_getElem? (i := 25) rfl)) (hw _ (List.mem_of_getElem? (i := 26) rfl)) (notFace_of_selects (args := #[]) (mvT hZ (hw _ (List.mem_of_getElem? (i := 28) rfl)))) (hw _ (List.mem_of_getElem? (i := 28) rfl)) (hw _ (List.mem_of_getElem? (i := 27) rfl)) (hw _ (List.mem_of_getElem? (i := 2) rfl)) (hw _ (List.mem_of_getElem? (i := 29) rfl)) (by decide) E_r0 (rmHur l Z a0 hw [] r0 v0 (.int aw) (.ref hb) (.int dm) e0 k0 h0 n0 Zs ⟨E_r0, F_r0_lastSent, F_r0_awaitingFlush, F_r0_held, F_r0_deferredMove⟩ g_r0 S0 V0 O) (by decide) (by decide) eh0 (by rw [hml]; rfl) (rest := []) (Nat.le_of_eq rfl) (by decide) (by decide) (lenOf pd_0 rfl) rfl d4_12 (pc' := 15) rfl ?_
      intro T17 v17 L17 X17 hQ17
      obtain ⟨rfl, Nq17, Kq17, b17, hb17, Oq17, Lq17⟩ := hQ17
      have N17 := Fr.app N0 Nq17
      have lo_r0_b17 : r0 < b17 := Nat.lt_of_lt_of_le E_r0.lt hb17
      have ne_r0_b17 : r0 ≠ b17 := Nat.ne_of_lt lo_r0_b17
      have lo_hb_b17 : hb < b17 := Nat.lt_of_lt_of_le E_hb.lt hb17
      have ne_hb_b17 : hb ≠ b17 := Nat.ne_of_lt lo_hb_b17
      have g_b17 : n0 ≤ b17 := Nat.le_trans Zs hb17
      have E_r0 := E_r0.keep Kq17
      have E_hb := E_hb.keep Kq17
      have F_hb_modCount := F_hb_modCount.keep Kq17 (ninS ne_r0_hb.symm nin0)
      have F_hb_elementData := F_hb_elementData.keep Kq17 (ninS ne_r0_hb.symm nin0)
      have F_hb_size := F_hb_size.keep Kq17 (ninS ne_r0_hb.symm nin0)
      have O := O.keep Kq17 (allS g_r0 all0)
      have Zs := Nat.le_trans Zs Kq17.1
      show GolF _ _ _ _ _ _ _ T17 m 15 #[.val (.ref r0), .val (.int (1 : Int32)), .val (.int p2), .val (.long q3), .second, .val (.int (p2 &&& (7 : Int32)))] []
      have Zk := Nat.le_trans Zk Kq17.1
      obtain ⟨E_r0, F_r0_lastSent, F_r0_awaitingFlush, F_r0_held, F_r0_deferredMove⟩ := Oq17
      obtain ⟨E_b17, F_b17_modCount, F_b17_elementData, F_b17_size⟩ := Lq17
      refine Gol.iconst X17 hx hby d4_15 (pc' := 16) rfl (z := (1 : Int32)) rfl ?_
      exact Gol.retN X17 hx hby (t := .boolean) Bd.returns (by simp) Bd.notSynchronized d4_16 rfl ⟨(1 : Int32), rfl, N17, Zk, O, ⟨v0, aw, dm, Or.inr ⟨rfl, b17, (0 : Int32), ⟨E_r0, F_r0_lastSent, F_r0_awaitingFlush, F_r0_held, F_r0_deferredMove⟩, g_b17, ne_r0_b17, Or.inl ⟨E_b17, F_b17_modCount, F_b17_elementData, F_b17_size⟩⟩⟩⟩ (by decide) (by decide)
    · skip
      refine Gol.ifYes X0 hx hby d4_8 (pc' := 17) (by decide) ((if0 _ _).trans (feq hc8_16).2) ?_
      refine Gol.iload X0 hx hby d4_17 (pc' := 19) rfl rfl ?_
      refine Gol.iconst X0 hx hby d4_19 (pc' := 20) rfl (z := (1 : Int32)) rfl ?_
      by_cases hc20_18 : (p2 &&& (7 : Int32)) = (1 : Int32)
      · skip
        refine Gol.icmpNo X0 hx hby d4_20 (pc' := 23) rfl (teq hc20_18).2 ?_
        refine Gol.aloadN X0 hx hby d4_23 (pc' := 24) rfl rfl rfl ?_
        refine Gol.callV X0 hx hby hZ hown 0 [] (a := r0) (hw _ (List.mem_of_getElem? (i := 69) rfl)) (hw _ (List.mem_of_getElem? (i := 70) rfl)) (notFace_of_selects (args := #[]) (mvT hZ (hw _ (List.mem_of_getElem? (i := 72) rfl)))) (hw _ (List.mem_of_getElem? (i := 72) rfl)) (hw _ (List.mem_of_getElem? (i := 71) rfl)) (hw _ (List.mem_of_getElem? (i := 2) rfl)) (hw _ (List.mem_of_getElem? (i := 73) rfl)) (by decide) E_r0 (rmRelR l Z a0 hw [] r0 v0 (.int aw) (.int dm) hb h0 n0 Zs ⟨E_r0, F_r0_lastSent, F_r0_awaitingFlush, F_r0_held, F_r0_deferredMove⟩ g_r0) (by decide) (by decide) eh0 (by rw [hml]; rfl) (rest := []) (Nat.le_of_eq rfl) (by decide) (by decide) (lenOf pd_7 rfl) rfl d4_24 (pc' := 27) rfl ?_
        intro T19 v19 L19 X19 hQ19
        obtain ⟨rfl, Nq19, Kq19, Oq19⟩ := hQ19
        have N19 := Fr.app N0 Nq19
        have E_r0 := E_r0.keep Kq19
        have E_hb := E_hb.keep Kq19
        have F_hb_modCount := F_hb_modCount.keep Kq19 (ninS ne_r0_hb.symm nin0)
        have F_hb_elementData := F_hb_elementData.keep Kq19 (ninS ne_r0_hb.symm nin0)
        have F_hb_size := F_hb_size.keep Kq19 (ninS ne_r0_hb.symm nin0)
        have O := O.keep Kq19 (allS g_r0 all0)
        have Zs := Nat.le_trans Zs Kq19.1
        show GolF _ _ _ _ _ _ _ T19 m 27 #[.val (.ref r0), .val (.int (1 : Int32)), .val (.int p2), .val (.long q3), .second, .val (.int (p2 &&& (7 : Int32)))] [(.ref hb)]
        have Zk := Nat.le_trans Zk Kq19.1
        obtain ⟨E_r0, F_r0_lastSent, F_r0_awaitingFlush, F_r0_held, F_r0_deferredMove⟩ := Oq19
        refine Gol.pop X19 hx hby d4_27 (pc' := 28) rfl rfl ?_
        refine Gol.iconst X19 hx hby d4_28 (pc' := 29) rfl (z := (0 : Int32)) rfl ?_
        exact Gol.retN X19 hx hby (t := .boolean) Bd.returns (by simp) Bd.notSynchronized d4_29 rfl ⟨(0 : Int32), rfl, N19, Zk, O, ⟨v0, aw, dm, Or.inl ⟨rfl, ⟨E_r0, F_r0_lastSent, F_r0_awaitingFlush, F_r0_held, F_r0_deferredMove⟩⟩⟩⟩ (by decide) (by decide)
      · skip
        refine Gol.icmpYes X0 hx hby d4_20 (pc' := 30) (by decide) (feq hc20_18).2 ?_
        refine Gol.iload X0 hx hby d4_30 (pc' := 32) rfl rfl ?_
        refine Gol.iconst X0 hx hby d4_32 (pc' := 33) rfl (z := (2 : Int32)) rfl ?_
        by_cases hc33_20 : (p2 &&& (7 : Int32)) = (2 : Int32)
        · skip
          refine Gol.icmpNo X0 hx hby d4_33 (pc' := 36) rfl (teq hc33_20).2 ?_
          refine Gol.aloadN X0 hx hby d4_36 (pc' := 37) rfl rfl rfl ?_
          refine Gol.lloadN X0 hx hby d4_37 (pc' := 38) rfl rfl ?_
          refine Gol.callV X0 hx hby hZ hown 0 [(.long q3)] (a := r0) (hw _ (List.mem_of_getElem? (i := 59) rfl)) (hw _ (List.mem_of_getElem? (i := 60) rfl)) (notFace_of_selects (args := #[]) (mvT hZ (hw _ (List.mem_of_getElem? (i := 62) rfl)))) (hw _ (List.mem_of_getElem? (i := 62) rfl)) (hw _ (List.mem_of_getElem? (i := 61) rfl)) (hw _ (List.mem_of_getElem? (i := 2) rfl)) (hw _ (List.mem_of_getElem? (i := 63) rfl)) (by decide) E_r0 (rmSent l Z a0 hw [] r0 q3 v0 (.int aw) (.ref hb) (.int dm) h0 n0 Zs ⟨E_r0, F_r0_lastSent, F_r0_awaitingFlush, F_r0_held, F_r0_deferredMove⟩ g_r0) (by decide) (by decide) eh0 (by rw [hml]; rfl) (rest := []) (Nat.le_of_eq rfl) (by decide) (by decide) (lenOf pd_8 rfl) rfl d4_38 (pc' := 41) rfl ?_
          intro T21 v21 L21 X21 hQ21
          obtain ⟨rfl, Nq21, Kq21, Oq21⟩ := hQ21
          have N21 := Fr.app N0 Nq21
          have E_r0 := E_r0.keep Kq21
          have E_hb := E_hb.keep Kq21
          have F_hb_modCount := F_hb_modCount.keep Kq21 (ninS ne_r0_hb.symm nin0)
          have F_hb_elementData := F_hb_elementData.keep Kq21 (ninS ne_r0_hb.symm nin0)
          have F_hb_size := F_hb_size.keep Kq21 (ninS ne_r0_hb.symm nin0)
          have O := O.keep Kq21 (allS g_r0 all0)
          have Zs := Nat.le_trans Zs Kq21.1
          show GolF _ _ _ _ _ _ _ T21 m 41 #[.val (.ref r0), .val (.int (1 : Int32)), .val (.int p2), .val (.long q3), .second, .val (.int (p2 &&& (7 : Int32)))] []
          have Zk := Nat.le_trans Zk Kq21.1
          obtain ⟨E_r0, F_r0_lastSent, F_r0_awaitingFlush, F_r0_held, F_r0_deferredMove⟩ := Oq21
          refine Gol.iloadN X21 hx hby d4_41 (pc' := 42) rfl rfl ?_
          exact Gol.retN X21 hx hby (t := .boolean) Bd.returns (by simp) Bd.notSynchronized d4_42 rfl ⟨(1 : Int32), rfl, N21, Zk, O, ⟨(.long q3), aw, dm, Or.inr ⟨rfl, hb, mo, ⟨E_r0, F_r0_lastSent, F_r0_awaitingFlush, F_r0_held, F_r0_deferredMove⟩, g_hb, ne_r0_hb, Or.inl ⟨E_hb, F_hb_modCount, F_hb_elementData, F_hb_size⟩⟩⟩⟩ (by decide) (by decide)
        · skip
          refine Gol.icmpYes X0 hx hby d4_33 (pc' := 43) (by decide) (feq hc33_20).2 ?_
          refine Gol.iload X0 hx hby d4_43 (pc' := 45) rfl rfl ?_
          refine Gol.iconst X0 hx hby d4_45 (pc' := 46) rfl (z := (3 : Int32)) rfl ?_
          by_cases hc46_22 : (p2 &&& (7 : Int32)) = (3 : Int32)
          · skip
            refine Gol.icmpNo X0 hx hby d4_46 (pc' := 49) rfl (teq hc46_22).2 ?_
            refine Gol.aloadN X0 hx hby d4_49 (pc' := 50) rfl rfl rfl ?_
            refine Gol.lloadN X0 hx hby d4_50 (pc' := 51) rfl rfl ?_
            refine Gol.l2i X0 hx hby d4_51 (pc' := 52) rfl rfl ?_
            refine Gol.callV X0 hx hby hZ hown 0 [(.int (q3.toInt32))] (a := r0) (hw _ (List.mem_of_getElem? (i := 54) rfl)) (hw _ (List.mem_of_getElem? (i := 55) rfl)) (notFace_of_selects (args := #[]) (mvT hZ (hw _ (List.mem_of_getElem? (i := 57) rfl)))) (hw _ (List.mem_of_getElem? (i := 57) rfl)) (hw _ (List.mem_of_getElem? (i := 56) rfl)) (hw _ (List.mem_of_getElem? (i := 2) rfl)) (hw _ (List.mem_of_getElem? (i := 58) rfl)) (by decide) E_r0 (rmDefer l Z a0 hw [] r0 (q3.toInt32) v0 (.int aw) (.ref hb) (.int dm) h0 n0 Zs ⟨E_r0, F_r0_lastSent, F_r0_awaitingFlush, F_r0_held, F_r0_deferredMove⟩ g_r0) (by decide) (by decide) eh0 (by rw [hml]; rfl) (rest := []) (Nat.le_of_eq rfl) (by decide) (by decide) (lenOf pd_9 rfl) rfl d4_52 (pc' := 55) rfl ?_
            intro T23 v23 L23 X23 hQ23
            obtain ⟨rfl, Nq23, Kq23, Oq23⟩ := hQ23
            have N23 := Fr.app N0 Nq23
            have E_r0 := E_r0.keep Kq23
            have E_hb := E_hb.keep Kq23
            have F_hb_modCount := F_hb_modCount.keep Kq23 (ninS ne_r0_hb.symm nin0)
            have F_hb_elementData := F_hb_elementData.keep Kq23 (ninS ne_r0_hb.symm nin0)
            have F_hb_size := F_hb_size.keep Kq23 (ninS ne_r0_hb.symm nin0)
            have O := O.keep Kq23 (allS g_r0 all0)
            have Zs := Nat.le_trans Zs Kq23.1
            show GolF _ _ _ _ _ _ _ T23 m 55 #[.val (.ref r0), .val (.int (1 : Int32)), .val (.int p2), .val (.long q3), .second, .val (.int (p2 &&& (7 : Int32)))] []
            have Zk := Nat.le_trans Zk Kq23.1
            obtain ⟨E_r0, F_r0_lastSent, F_r0_awaitingFlush, F_r0_held, F_r0_deferredMove⟩ := Oq23
            refine Gol.iloadN X23 hx hby d4_55 (pc' := 56) rfl rfl ?_
            exact Gol.retN X23 hx hby (t := .boolean) Bd.returns (by simp) Bd.notSynchronized d4_56 rfl ⟨(1 : Int32), rfl, N23, Zk, O, ⟨v0, aw, (q3.toInt32), Or.inr ⟨rfl, hb, mo, ⟨E_r0, F_r0_lastSent, F_r0_awaitingFlush, F_r0_held, F_r0_deferredMove⟩, g_hb, ne_r0_hb, Or.inl ⟨E_hb, F_hb_modCount, F_hb_elementData, F_hb_size⟩⟩⟩⟩ (by decide) (by decide)
          · skip
            refine Gol.icmpYes X0 hx hby d4_46 (pc' := 57) (by decide) (feq hc46_22).2 ?_
            refine Gol.iload X0 hx hby d4_57 (pc' := 59) rfl rfl ?_
            refine Gol.iconst X0 hx hby d4_59 (pc' := 60) rfl (z := (4 : Int32)) rfl ?_
            by_cases hc60_24 : (p2 &&& (7 : Int32)) = (4 : Int32)
            · skip
              refine Gol.icmpNo X0 hx hby d4_60 (pc' := 63) rfl (teq hc60_24).2 ?_
              refine Gol.aloadN X0 hx hby d4_63 (pc' := 64) rfl rfl rfl ?_
              refine Gol.callV X0 hx hby hZ hown 0 [] (a := r0) (hw _ (List.mem_of_getElem? (i := 64) rfl)) (hw _ (List.mem_of_getElem? (i := 65) rfl)) (notFace_of_selects (args := #[]) (mvT hZ (hw _ (List.mem_of_getElem? (i := 67) rfl)))) (hw _ (List.mem_of_getElem? (i := 67) rfl)) (hw _ (List.mem_of_getElem? (i := 66) rfl)) (hw _ (List.mem_of_getElem? (i := 2) rfl)) (hw _ (List.mem_of_getElem? (i := 68) rfl)) (by decide) E_r0 (rmTake l Z a0 hw [] r0 v0 (.int aw) (.ref hb) dm h0 n0 Zs ⟨E_r0, F_r0_lastSent, F_r0_awaitingFlush, F_r0_held, F_r0_deferredMove⟩ g_r0) (by decide) (by decide) eh0 (by rw [hml]; rfl) (rest := []) (Nat.le_of_eq rfl) (by decide) (by decide) (lenOf pd_10 rfl) rfl d4_64 (pc' := 67) rfl ?_
              intro T25 v25 L25 X25 hQ25
              obtain ⟨rfl, Nq25, Kq25, Oq25⟩ := hQ25
              have N25 := Fr.app N0 Nq25
              have E_r0 := E_r0.keep Kq25
              have E_hb := E_hb.keep Kq25
              have F_hb_modCount := F_hb_modCount.keep Kq25 (ninS ne_r0_hb.symm nin0)
              have F_hb_elementData := F_hb_elementData.keep Kq25 (ninS ne_r0_hb.symm nin0)
              have F_hb_size := F_hb_size.keep Kq25 (ninS ne_r0_hb.symm nin0)
              have O := O.keep Kq25 (allS g_r0 all0)
              have Zs := Nat.le_trans Zs Kq25.1
              show GolF _ _ _ _ _ _ _ T25 m 67 #[.val (.ref r0), .val (.int (1 : Int32)), .val (.int p2), .val (.long q3), .second, .val (.int (p2 &&& (7 : Int32)))] [(.int dm)]
              have Zk := Nat.le_trans Zk Kq25.1
              obtain ⟨E_r0, F_r0_lastSent, F_r0_awaitingFlush, F_r0_held, F_r0_deferredMove⟩ := Oq25
              refine Gol.pop X25 hx hby d4_67 (pc' := 68) rfl rfl ?_
              refine Gol.iloadN X25 hx hby d4_68 (pc' := 69) rfl rfl ?_
              exact Gol.retN X25 hx hby (t := .boolean) Bd.returns (by simp) Bd.notSynchronized d4_69 rfl ⟨(1 : Int32), rfl, N25, Zk, O, ⟨v0, aw, (-1 : Int32), Or.inr ⟨rfl, hb, mo, ⟨E_r0, F_r0_lastSent, F_r0_awaitingFlush, F_r0_held, F_r0_deferredMove⟩, g_hb, ne_r0_hb, Or.inl ⟨E_hb, F_hb_modCount, F_hb_elementData, F_hb_size⟩⟩⟩⟩ (by decide) (by decide)
            · skip
              refine Gol.icmpYes X0 hx hby d4_60 (pc' := 70) (by decide) (feq hc60_24).2 ?_
              refine Gol.iload X0 hx hby d4_70 (pc' := 72) rfl rfl ?_
              refine Gol.iconst X0 hx hby d4_72 (pc' := 73) rfl (z := (5 : Int32)) rfl ?_
              by_cases hc73_26 : (p2 &&& (7 : Int32)) = (5 : Int32)
              · skip
                refine Gol.icmpNo X0 hx hby d4_73 (pc' := 76) rfl (teq hc73_26).2 ?_
                refine Gol.aloadN X0 hx hby d4_76 (pc' := 77) rfl rfl rfl ?_
                refine Gol.callV X0 hx hby hZ hown 0 [] (a := r0) (hw _ (List.mem_of_getElem? (i := 74) rfl)) (hw _ (List.mem_of_getElem? (i := 75) rfl)) (notFace_of_selects (args := #[]) (mvT hZ (hw _ (List.mem_of_getElem? (i := 77) rfl)))) (hw _ (List.mem_of_getElem? (i := 77) rfl)) (hw _ (List.mem_of_getElem? (i := 76) rfl)) (hw _ (List.mem_of_getElem? (i := 2) rfl)) (hw _ (List.mem_of_getElem? (i := 78) rfl)) (by decide) E_r0 (rmAwait l Z a0 hw [] r0 v0 (.ref hb) (.int dm) aw h0 n0 Zs ⟨E_r0, F_r0_lastSent, F_r0_awaitingFlush, F_r0_held, F_r0_deferredMove⟩ g_r0) (by decide) (by decide) eh0 (by rw [hml]; rfl) (rest := []) (Nat.le_of_eq rfl) (by decide) (by decide) (lenOf pd_11 rfl) rfl d4_77 (pc' := 80) rfl ?_
                intro T27 v27 L27 X27 hQ27
                obtain ⟨z27, az27, rfl, Nq27, Kq27, Oq27⟩ := hQ27
                have N27 := Fr.app N0 Nq27
                have E_r0 := E_r0.keep Kq27
                have E_hb := E_hb.keep Kq27
                have F_hb_modCount := F_hb_modCount.keep Kq27 (ninS ne_r0_hb.symm nin0)
                have F_hb_elementData := F_hb_elementData.keep Kq27 (ninS ne_r0_hb.symm nin0)
                have F_hb_size := F_hb_size.keep Kq27 (ninS ne_r0_hb.symm nin0)
                have O := O.keep Kq27 (allS g_r0 all0)
                have Zs := Nat.le_trans Zs Kq27.1
                show GolF _ _ _ _ _ _ _ T27 m 80 #[.val (.ref r0), .val (.int (1 : Int32)), .val (.int p2), .val (.long q3), .second, .val (.int (p2 &&& (7 : Int32)))] [(.int z27)]
                have Zk := Nat.le_trans Zk Kq27.1
                obtain ⟨E_r0, F_r0_lastSent, F_r0_awaitingFlush, F_r0_held, F_r0_deferredMove⟩ := Oq27
                refine Gol.pop X27 hx hby d4_80 (pc' := 81) rfl rfl ?_
                refine Gol.iloadN X27 hx hby d4_81 (pc' := 82) rfl rfl ?_
                exact Gol.retN X27 hx hby (t := .boolean) Bd.returns (by simp) Bd.notSynchronized d4_82 rfl ⟨(1 : Int32), rfl, N27, Zk, O, ⟨v0, az27, dm, Or.inr ⟨rfl, hb, mo, ⟨E_r0, F_r0_lastSent, F_r0_awaitingFlush, F_r0_held, F_r0_deferredMove⟩, g_hb, ne_r0_hb, Or.inl ⟨E_hb, F_hb_modCount, F_hb_elementData, F_hb_size⟩⟩⟩⟩ (by decide) (by decide)
              · skip
                refine Gol.icmpYes X0 hx hby d4_73 (pc' := 83) (by decide) (feq hc73_26).2 ?_
                refine Gol.iload X0 hx hby d4_83 (pc' := 85) rfl rfl ?_
                refine Gol.bipush X0 hx hby d4_85 (pc' := 87) rfl (z := (6 : Int32)) rfl ?_
                by_cases hc87_28 : (p2 &&& (7 : Int32)) = (6 : Int32)
                · skip
                  refine Gol.icmpNo X0 hx hby d4_87 (pc' := 90) rfl (teq hc87_28).2 ?_
                  refine Gol.aloadN X0 hx hby d4_90 (pc' := 91) rfl rfl rfl ?_
                  refine Gol.callV X0 hx hby hZ hown 0 [] (a := r0) (hw _ (List.mem_of_getElem? (i := 81) rfl)) (hw _ (List.mem_of_getElem? (i := 82) rfl)) (notFace_of_selects (args := #[]) (mvT hZ (hw _ (List.mem_of_getElem? (i := 84) rfl)))) (hw _ (List.mem_of_getElem? (i := 84) rfl)) (hw _ (List.mem_of_getElem? (i := 83) rfl)) (hw _ (List.mem_of_getElem? (i := 2) rfl)) (hw _ (List.mem_of_getElem? (i := 85) rfl)) (by decide) E_r0 (rmFlushed l Z a0 hw [] r0 v0 (.int aw) (.ref hb) (.int dm) h0 n0 Zs ⟨E_r0, F_r0_lastSent, F_r0_awaitingFlush, F_r0_held, F_r0_deferredMove⟩ g_r0) (by decide) (by decide) eh0 (by rw [hml]; rfl) (rest := []) (Nat.le_of_eq rfl) (by decide) (by decide) (lenOf pd_0 rfl) rfl d4_91 (pc' := 94) rfl ?_
                  intro T29 v29 L29 X29 hQ29
                  obtain ⟨rfl, Nq29, Kq29, Oq29⟩ := hQ29
                  have N29 := Fr.app N0 Nq29
                  have E_r0 := E_r0.keep Kq29
                  have E_hb := E_hb.keep Kq29
                  have F_hb_modCount := F_hb_modCount.keep Kq29 (ninS ne_r0_hb.symm nin0)
                  have F_hb_elementData := F_hb_elementData.keep Kq29 (ninS ne_r0_hb.symm nin0)
                  have F_hb_size := F_hb_size.keep Kq29 (ninS ne_r0_hb.symm nin0)
                  have O := O.keep Kq29 (allS g_r0 all0)
                  have Zs := Nat.le_trans Zs Kq29.1
                  show GolF _ _ _ _ _ _ _ T29 m 94 #[.val (.ref r0), .val (.int (1 : Int32)), .val (.int p2), .val (.long q3), .second, .val (.int (p2 &&& (7 : Int32)))] []
                  have Zk := Nat.le_trans Zk Kq29.1
                  obtain ⟨E_r0, F_r0_lastSent, F_r0_awaitingFlush, F_r0_held, F_r0_deferredMove⟩ := Oq29
                  refine Gol.iloadN X29 hx hby d4_94 (pc' := 95) rfl rfl ?_
                  exact Gol.retN X29 hx hby (t := .boolean) Bd.returns (by simp) Bd.notSynchronized d4_95 rfl ⟨(1 : Int32), rfl, N29, Zk, O, ⟨v0, (0 : Int32), dm, Or.inr ⟨rfl, hb, mo, ⟨E_r0, F_r0_lastSent, F_r0_awaitingFlush, F_r0_held, F_r0_deferredMove⟩, g_hb, ne_r0_hb, Or.inl ⟨E_hb, F_hb_modCount, F_hb_elementData, F_hb_size⟩⟩⟩⟩ (by decide) (by decide)
                · skip
                  refine Gol.icmpYes X0 hx hby d4_87 (pc' := 96) (by decide) (feq hc87_28).2 ?_
                  refine Gol.iloadN X0 hx hby d4_96 (pc' := 97) rfl rfl ?_
                  refine Gol.ifNo X0 hx hby d4_97 (pc' := 100) rfl ((if0 _ _).trans (feq (by decide : ¬ ((1 : Int32) = (0 : Int32)))).1) ?_
                  refine Gol.aloadN X0 hx hby d4_100 (pc' := 101) rfl rfl rfl ?_
                  refine Gol.aconstNull X0 hx hby d4_101 (pc' := 102) rfl ?_
                  refine Gol.aconstNull X0 hx hby d4_102 (pc' := 103) rfl ?_
                  refine Gol.callV X0 hx hby hZ hown 0 [.null, .null] (a := r0) (hw _ (List.mem_of_getElem? (i := 86) rfl)) (hw _ (List.mem_of_getElem? (i := 87) rfl)) (notFace_of_selects (args := #[]) (mvT hZ (hw _ (List.mem_of_getElem? (i := 89) rfl)))) (hw _ (List.mem_of_getElem? (i := 89) rfl)) (hw _ (List.mem_of_getElem? (i := 88) rfl)) (hw _ (List.mem_of_getElem? (i := 2) rfl)) (hw _ (List.mem_of_getElem? (i := 90) rfl)) (by decide) E_r0 (rmHoldA l Z a0 hw [] r0 v0 (.int aw) (.int dm) hb mo e0 k0 h0 n0 Zs ⟨E_r0, F_r0_lastSent, F_r0_awaitingFlush, F_r0_held, F_r0_deferredMove⟩ g_r0 g_hb ne_r0_hb ⟨E_hb, F_hb_modCount, F_hb_elementData, F_hb_size⟩ S0 V0 O) (by decide) (by decide) eh0 (by rw [hml]; rfl) (rest := []) (Nat.le_of_eq rfl) (by decide) (by decide) (lenOf pd_5 rfl) rfl d4_103 (pc' := 106) rfl ?_
                  intro T30 v30 L30 X30 hQ30
                  obtain ⟨rfl, Nq30, Kq30, x30, mz30, e30a, ka30, vs30, hb30, hl30, Oq30, V_e30a, Ov30, hf30, hx30, nx30, Hq30⟩ := hQ30
                  have N30 := Fr.app N0 Nq30
                  have lo_r0_e30a : r0 < e30a := Nat.lt_of_lt_of_le E_r0.lt hb30
                  have ne_r0_e30a : r0 ≠ e30a := Nat.ne_of_lt lo_r0_e30a
                  have lo_hb_e30a : hb < e30a := Nat.lt_of_lt_of_le E_hb.lt hb30
                  have ne_hb_e30a : hb ≠ e30a := Nat.ne_of_lt lo_hb_e30a
                  have g_e30a : n0 ≤ e30a := Nat.le_trans Zs hb30
                  have lo_r0_x30 : r0 < x30 := Nat.lt_of_lt_of_le E_r0.lt hx30
                  have ne_r0_x30 : r0 ≠ x30 := Nat.ne_of_lt lo_r0_x30
                  have lo_hb_x30 : hb < x30 := Nat.lt_of_lt_of_le E_hb.lt hx30
                  have ne_hb_x30 : hb ≠ x30 := Nat.ne_of_lt lo_hb_x30
                  have g_x30 : n0 ≤ x30 := Nat.le_trans Zs hx30
                  have E_r0 := E_r0.keep Kq30
                  have E_hb := E_hb.keep Kq30
                  have F_r0_lastSent := F_r0_lastSent.keep Kq30 (ninS ne_r0_hb nin0)
                  have F_r0_awaitingFlush := F_r0_awaitingFlush.keep Kq30 (ninS ne_r0_hb nin0)
                  have F_r0_held := F_r0_held.keep Kq30 (ninS ne_r0_hb nin0)
                  have F_r0_deferredMove := F_r0_deferredMove.keep Kq30 (ninS ne_r0_hb nin0)
                  have O := O.keep Kq30 (allS g_hb all0)
                  have Zs := Nat.le_trans Zs Kq30.1
                  show GolF _ _ _ _ _ _ _ T30 m 106 #[.val (.ref r0), .val (.int (1 : Int32)), .val (.int p2), .val (.long q3), .second, .val (.int (p2 &&& (7 : Int32)))] []
                  have Zk := Nat.le_trans Zk Kq30.1
                  obtain ⟨E_hb, F_hb_modCount, F_hb_elementData, F_hb_size⟩ := Oq30
                  obtain ⟨E_x30, F_x30_receiver, F_x30_send⟩ := Hq30
                  have ne_x30_e30a := nx30
                  refine Gol.iconst X30 hx hby d4_106 (pc' := 107) rfl (z := (1 : Int32)) rfl ?_
                  exact Gol.retN X30 hx hby (t := .boolean) Bd.returns (by simp) Bd.notSynchronized d4_107 rfl ⟨(1 : Int32), rfl, N30, Zk, O, ⟨v0, aw, dm, Or.inr ⟨rfl, hb, mz30, ⟨E_r0, F_r0_lastSent, F_r0_awaitingFlush, F_r0_held, F_r0_deferredMove⟩, g_hb, ne_r0_hb, Or.inr ⟨e30a, ka30, vs30, 1, ⟨E_hb, F_hb_modCount, F_hb_elementData, F_hb_size⟩, by omega, g_e30a, ne_r0_e30a, ne_hb_e30a, hl30, V_e30a, Ov30⟩⟩⟩⟩ (by decide) (by decide)
  · skip
    obtain ⟨E_r0, F_r0_lastSent, F_r0_awaitingFlush, F_r0_held, F_r0_deferredMove⟩ := O1
    obtain ⟨E_hb, F_hb_modCount, F_hb_elementData, F_hb_size⟩ := O2
    show GolF _ _ _ _ _ _ _ s₁ m 0 #[.val (.ref r0), .val (.int (1 : Int32)), .val (.int p2), .val (.long q3), .second, .unset] []
    refine Gol.iloadN X0 hx hby d4_0 (pc' := 1) rfl rfl ?_
    refine Gol.bipush X0 hx hby d4_1 (pc' := 3) rfl (z := (7 : Int32)) rfl ?_
    refine Gol.iand X0 hx hby d4_3 (pc' := 4) rfl rfl ?_
    refine Gol.istore X0 hx hby d4_4 (pc' := 6) rfl (l' := #[.val (.ref r0), .val (.int (1 : Int32)), .val (.int p2), .val (.long q3), .second, .val (.int (p2 &&& (7 : Int32)))]) rfl ?_
    refine Gol.iload X0 hx hby d4_6 (pc' := 8) rfl rfl ?_
    by_cases hc8_31 : (p2 &&& (7 : Int32)) = (0 : Int32)
    · skip
      refine Gol.ifNo X0 hx hby d4_8 (pc' := 11) rfl ((if0 _ _).trans (teq hc8_31).2) ?_
      refine Gol.aloadN X0 hx hby d4_11 (pc' := 12) rfl rfl rfl ?_
      refine Gol.callV X0 hx hby hZ hown 0 [] (a := r0) (hw _ (List.mem_of_getElem? (i := 25) rfl)) (hw _ (List.mem_of_getElem? (i := 26) rfl)) (notFace_of_selects (args := #[]) (mvT hZ (hw _ (List.mem_of_getElem? (i := 28) rfl)))) (hw _ (List.mem_of_getElem? (i := 28) rfl)) (hw _ (List.mem_of_getElem? (i := 27) rfl)) (hw _ (List.mem_of_getElem? (i := 2) rfl)) (hw _ (List.mem_of_getElem? (i := 29) rfl)) (by decide) E_r0 (rmHur l Z a0 hw [] r0 v0 (.int aw) (.ref hb) (.int dm) e0 k0 h0 n0 Zs ⟨E_r0, F_r0_lastSent, F_r0_awaitingFlush, F_r0_held, F_r0_deferredMove⟩ g_r0 S0 V0 O) (by decide) (by decide) eh0 (by rw [hml]; rfl) (rest := []) (Nat.le_of_eq rfl) (by decide) (by decide) (lenOf pd_0 rfl) rfl d4_12 (pc' := 15) rfl ?_
      intro T32 v32 L32 X32 hQ32
      obtain ⟨rfl, Nq32, Kq32, b32, hb32, Oq32, Lq32⟩ := hQ32
      have N32 := Fr.app N0 Nq32
      have lo_r0_b32 : r0 < b32 := Nat.lt_of_lt_of_le E_r0.lt hb32
      have ne_r0_b32 : r0 ≠ b32 := Nat.ne_of_lt lo_r0_b32
      have lo_hb_b32 : hb < b32 := Nat.lt_of_lt_of_le E_hb.lt hb32
      have ne_hb_b32 : hb ≠ b32 := Nat.ne_of_lt lo_hb_b32
      have lo_e_b32 : e < b32 := Nat.lt_of_lt_of_le V_e.lt hb32
      have ne_e_b32 : e ≠ b32 := Nat.ne_of_lt lo_e_b32
      have g_b32 : n0 ≤ b32 := Nat.le_trans Zs hb32
      have E_r0 := E_r0.keep Kq32
      have E_hb := E_hb.keep Kq32
      have F_hb_modCount := F_hb_modCount.keep Kq32 (ninS ne_r0_hb.symm nin0)
      have F_hb_elementData := F_hb_elementData.keep Kq32 (ninS ne_r0_hb.symm nin0)
      have F_hb_size := F_hb_size.keep Kq32 (ninS ne_r0_hb.symm nin0)
      have V_e := V_e.keep Kq32 (ninS ne_r0_e.symm nin0)
      have O := O.keep Kq32 (allS g_r0 all0)
      have Zs := Nat.le_trans Zs Kq32.1
      show GolF _ _ _ _ _ _ _ T32 m 15 #[.val (.ref r0), .val (.int (1 : Int32)), .val (.int p2), .val (.long q3), .second, .val (.int (p2 &&& (7 : Int32)))] []
      have Zk := Nat.le_trans Zk Kq32.1
      obtain ⟨E_r0, F_r0_lastSent, F_r0_awaitingFlush, F_r0_held, F_r0_deferredMove⟩ := Oq32
      obtain ⟨E_b32, F_b32_modCount, F_b32_elementData, F_b32_size⟩ := Lq32
      refine Gol.iconst X32 hx hby d4_15 (pc' := 16) rfl (z := (1 : Int32)) rfl ?_
      exact Gol.retN X32 hx hby (t := .boolean) Bd.returns (by simp) Bd.notSynchronized d4_16 rfl ⟨(1 : Int32), rfl, N32, Zk, O, ⟨v0, aw, dm, Or.inr ⟨rfl, b32, (0 : Int32), ⟨E_r0, F_r0_lastSent, F_r0_awaitingFlush, F_r0_held, F_r0_deferredMove⟩, g_b32, ne_r0_b32, Or.inl ⟨E_b32, F_b32_modCount, F_b32_elementData, F_b32_size⟩⟩⟩⟩ (by decide) (by decide)
    · skip
      refine Gol.ifYes X0 hx hby d4_8 (pc' := 17) (by decide) ((if0 _ _).trans (feq hc8_31).2) ?_
      refine Gol.iload X0 hx hby d4_17 (pc' := 19) rfl rfl ?_
      refine Gol.iconst X0 hx hby d4_19 (pc' := 20) rfl (z := (1 : Int32)) rfl ?_
      by_cases hc20_33 : (p2 &&& (7 : Int32)) = (1 : Int32)
      · skip
        refine Gol.icmpNo X0 hx hby d4_20 (pc' := 23) rfl (teq hc20_33).2 ?_
        refine Gol.aloadN X0 hx hby d4_23 (pc' := 24) rfl rfl rfl ?_
        refine Gol.callV X0 hx hby hZ hown 0 [] (a := r0) (hw _ (List.mem_of_getElem? (i := 69) rfl)) (hw _ (List.mem_of_getElem? (i := 70) rfl)) (notFace_of_selects (args := #[]) (mvT hZ (hw _ (List.mem_of_getElem? (i := 72) rfl)))) (hw _ (List.mem_of_getElem? (i := 72) rfl)) (hw _ (List.mem_of_getElem? (i := 71) rfl)) (hw _ (List.mem_of_getElem? (i := 2) rfl)) (hw _ (List.mem_of_getElem? (i := 73) rfl)) (by decide) E_r0 (rmRelR l Z a0 hw [] r0 v0 (.int aw) (.int dm) hb h0 n0 Zs ⟨E_r0, F_r0_lastSent, F_r0_awaitingFlush, F_r0_held, F_r0_deferredMove⟩ g_r0) (by decide) (by decide) eh0 (by rw [hml]; rfl) (rest := []) (Nat.le_of_eq rfl) (by decide) (by decide) (lenOf pd_7 rfl) rfl d4_24 (pc' := 27) rfl ?_
        intro T34 v34 L34 X34 hQ34
        obtain ⟨rfl, Nq34, Kq34, Oq34⟩ := hQ34
        have N34 := Fr.app N0 Nq34
        have E_r0 := E_r0.keep Kq34
        have E_hb := E_hb.keep Kq34
        have F_hb_modCount := F_hb_modCount.keep Kq34 (ninS ne_r0_hb.symm nin0)
        have F_hb_elementData := F_hb_elementData.keep Kq34 (ninS ne_r0_hb.symm nin0)
        have F_hb_size := F_hb_size.keep Kq34 (ninS ne_r0_hb.symm nin0)
        have V_e := V_e.keep Kq34 (ninS ne_r0_e.symm nin0)
        have O := O.keep Kq34 (allS g_r0 all0)
        have Zs := Nat.le_trans Zs Kq34.1
        show GolF _ _ _ _ _ _ _ T34 m 27 #[.val (.ref r0), .val (.int (1 : Int32)), .val (.int p2), .val (.long q3), .second, .val (.int (p2 &&& (7 : Int32)))] [(.ref hb)]
        have Zk := Nat.le_trans Zk Kq34.1
        obtain ⟨E_r0, F_r0_lastSent, F_r0_awaitingFlush, F_r0_held, F_r0_deferredMove⟩ := Oq34
        refine Gol.pop X34 hx hby d4_27 (pc' := 28) rfl rfl ?_
        refine Gol.iconst X34 hx hby d4_28 (pc' := 29) rfl (z := (0 : Int32)) rfl ?_
        exact Gol.retN X34 hx hby (t := .boolean) Bd.returns (by simp) Bd.notSynchronized d4_29 rfl ⟨(0 : Int32), rfl, N34, Zk, O, ⟨v0, aw, dm, Or.inl ⟨rfl, ⟨E_r0, F_r0_lastSent, F_r0_awaitingFlush, F_r0_held, F_r0_deferredMove⟩⟩⟩⟩ (by decide) (by decide)
      · skip
        refine Gol.icmpYes X0 hx hby d4_20 (pc' := 30) (by decide) (feq hc20_33).2 ?_
        refine Gol.iload X0 hx hby d4_30 (pc' := 32) rfl rfl ?_
        refine Gol.iconst X0 hx hby d4_32 (pc' := 33) rfl (z := (2 : Int32)) rfl ?_
        by_cases hc33_35 : (p2 &&& (7 : Int32)) = (2 : Int32)
        · skip
          refine Gol.icmpNo X0 hx hby d4_33 (pc' := 36) rfl (teq hc33_35).2 ?_
          refine Gol.aloadN X0 hx hby d4_36 (pc' := 37) rfl rfl rfl ?_
          refine Gol.lloadN X0 hx hby d4_37 (pc' := 38) rfl rfl ?_
          refine Gol.callV X0 hx hby hZ hown 0 [(.long q3)] (a := r0) (hw _ (List.mem_of_getElem? (i := 59) rfl)) (hw _ (List.mem_of_getElem? (i := 60) rfl)) (notFace_of_selects (args := #[]) (mvT hZ (hw _ (List.mem_of_getElem? (i := 62) rfl)))) (hw _ (List.mem_of_getElem? (i := 62) rfl)) (hw _ (List.mem_of_getElem? (i := 61) rfl)) (hw _ (List.mem_of_getElem? (i := 2) rfl)) (hw _ (List.mem_of_getElem? (i := 63) rfl)) (by decide) E_r0 (rmSent l Z a0 hw [] r0 q3 v0 (.int aw) (.ref hb) (.int dm) h0 n0 Zs ⟨E_r0, F_r0_lastSent, F_r0_awaitingFlush, F_r0_held, F_r0_deferredMove⟩ g_r0) (by decide) (by decide) eh0 (by rw [hml]; rfl) (rest := []) (Nat.le_of_eq rfl) (by decide) (by decide) (lenOf pd_8 rfl) rfl d4_38 (pc' := 41) rfl ?_
          intro T36 v36 L36 X36 hQ36
          obtain ⟨rfl, Nq36, Kq36, Oq36⟩ := hQ36
          have N36 := Fr.app N0 Nq36
          have E_r0 := E_r0.keep Kq36
          have E_hb := E_hb.keep Kq36
          have F_hb_modCount := F_hb_modCount.keep Kq36 (ninS ne_r0_hb.symm nin0)
          have F_hb_elementData := F_hb_elementData.keep Kq36 (ninS ne_r0_hb.symm nin0)
          have F_hb_size := F_hb_size.keep Kq36 (ninS ne_r0_hb.symm nin0)
          have V_e := V_e.keep Kq36 (ninS ne_r0_e.symm nin0)
          have O := O.keep Kq36 (allS g_r0 all0)
          have Zs := Nat.le_trans Zs Kq36.1
          show GolF _ _ _ _ _ _ _ T36 m 41 #[.val (.ref r0), .val (.int (1 : Int32)), .val (.int p2), .val (.long q3), .second, .val (.int (p2 &&& (7 : Int32)))] []
          have Zk := Nat.le_trans Zk Kq36.1
          obtain ⟨E_r0, F_r0_lastSent, F_r0_awaitingFlush, F_r0_held, F_r0_deferredMove⟩ := Oq36
          refine Gol.iloadN X36 hx hby d4_41 (pc' := 42) rfl rfl ?_
          exact Gol.retN X36 hx hby (t := .boolean) Bd.returns (by simp) Bd.notSynchronized d4_42 rfl ⟨(1 : Int32), rfl, N36, Zk, O, ⟨(.long q3), aw, dm, Or.inr ⟨rfl, hb, mo, ⟨E_r0, F_r0_lastSent, F_r0_awaitingFlush, F_r0_held, F_r0_deferredMove⟩, g_hb, ne_r0_hb, Or.inr ⟨e, ke, vs, sz, ⟨E_hb, F_hb_modCount, F_hb_elementData, F_hb_size⟩, by omega, g_e, ne_r0_e, ne_hb_e, hlen, V_e, ov⟩⟩⟩⟩ (by decide) (by decide)
        · skip
          refine Gol.icmpYes X0 hx hby d4_33 (pc' := 43) (by decide) (feq hc33_35).2 ?_
          refine Gol.iload X0 hx hby d4_43 (pc' := 45) rfl rfl ?_
          refine Gol.iconst X0 hx hby d4_45 (pc' := 46) rfl (z := (3 : Int32)) rfl ?_
          by_cases hc46_37 : (p2 &&& (7 : Int32)) = (3 : Int32)
          · skip
            refine Gol.icmpNo X0 hx hby d4_46 (pc' := 49) rfl (teq hc46_37).2 ?_
            refine Gol.aloadN X0 hx hby d4_49 (pc' := 50) rfl rfl rfl ?_
            refine Gol.lloadN X0 hx hby d4_50 (pc' := 51) rfl rfl ?_
            refine Gol.l2i X0 hx hby d4_51 (pc' := 52) rfl rfl ?_
            refine Gol.callV X0 hx hby hZ hown 0 [(.int (q3.toInt32))] (a := r0) (hw _ (List.mem_of_getElem? (i := 54) rfl)) (hw _ (List.mem_of_getElem? (i := 55) rfl)) (notFace_of_selects (args := #[]) (mvT hZ (hw _ (List.mem_of_getElem? (i := 57) rfl)))) (hw _ (List.mem_of_getElem? (i := 57) rfl)) (hw _ (List.mem_of_getElem? (i := 56) rfl)) (hw _ (List.mem_of_getElem? (i := 2) rfl)) (hw _ (List.mem_of_getElem? (i := 58) rfl)) (by decide) E_r0 (rmDefer l Z a0 hw [] r0 (q3.toInt32) v0 (.int aw) (.ref hb) (.int dm) h0 n0 Zs ⟨E_r0, F_r0_lastSent, F_r0_awaitingFlush, F_r0_held, F_r0_deferredMove⟩ g_r0) (by decide) (by decide) eh0 (by rw [hml]; rfl) (rest := []) (Nat.le_of_eq rfl) (by decide) (by decide) (lenOf pd_9 rfl) rfl d4_52 (pc' := 55) rfl ?_
            intro T38 v38 L38 X38 hQ38
            obtain ⟨rfl, Nq38, Kq38, Oq38⟩ := hQ38
            have N38 := Fr.app N0 Nq38
            have E_r0 := E_r0.keep Kq38
            have E_hb := E_hb.keep Kq38
            have F_hb_modCount := F_hb_modCount.keep Kq38 (ninS ne_r0_hb.symm nin0)
            have F_hb_elementData := F_hb_elementData.keep Kq38 (ninS ne_r0_hb.symm nin0)
            have F_hb_size := F_hb_size.keep Kq38 (ninS ne_r0_hb.symm nin0)
            have V_e := V_e.keep Kq38 (ninS ne_r0_e.symm nin0)
            have O := O.keep Kq38 (allS g_r0 all0)
            have Zs := Nat.le_trans Zs Kq38.1
            show GolF _ _ _ _ _ _ _ T38 m 55 #[.val (.ref r0), .val (.int (1 : Int32)), .val (.int p2), .val (.long q3), .second, .val (.int (p2 &&& (7 : Int32)))] []
            have Zk := Nat.le_trans Zk Kq38.1
            obtain ⟨E_r0, F_r0_lastSent, F_r0_awaitingFlush, F_r0_held, F_r0_deferredMove⟩ := Oq38
            refine Gol.iloadN X38 hx hby d4_55 (pc' := 56) rfl rfl ?_
            exact Gol.retN X38 hx hby (t := .boolean) Bd.returns (by simp) Bd.notSynchronized d4_56 rfl ⟨(1 : Int32), rfl, N38, Zk, O, ⟨v0, aw, (q3.toInt32), Or.inr ⟨rfl, hb, mo, ⟨E_r0, F_r0_lastSent, F_r0_awaitingFlush, F_r0_held, F_r0_deferredMove⟩, g_hb, ne_r0_hb, Or.inr ⟨e, ke, vs, sz, ⟨E_hb, F_hb_modCount, F_hb_elementData, F_hb_size⟩, by omega, g_e, ne_r0_e, ne_hb_e, hlen, V_e, ov⟩⟩⟩⟩ (by decide) (by decide)
          · skip
            refine Gol.icmpYes X0 hx hby d4_46 (pc' := 57) (by decide) (feq hc46_37).2 ?_
            refine Gol.iload X0 hx hby d4_57 (pc' := 59) rfl rfl ?_
            refine Gol.iconst X0 hx hby d4_59 (pc' := 60) rfl (z := (4 : Int32)) rfl ?_
            by_cases hc60_39 : (p2 &&& (7 : Int32)) = (4 : Int32)
            · skip
              refine Gol.icmpNo X0 hx hby d4_60 (pc' := 63) rfl (teq hc60_39).2 ?_
              refine Gol.aloadN X0 hx hby d4_63 (pc' := 64) rfl rfl rfl ?_
              refine Gol.callV X0 hx hby hZ hown 0 [] (a := r0) (hw _ (List.mem_of_getElem? (i := 64) rfl)) (hw _ (List.mem_of_getElem? (i := 65) rfl)) (notFace_of_selects (args := #[]) (mvT hZ (hw _ (List.mem_of_getElem? (i := 67) rfl)))) (hw _ (List.mem_of_getElem? (i := 67) rfl)) (hw _ (List.mem_of_getElem? (i := 66) rfl)) (hw _ (List.mem_of_getElem? (i := 2) rfl)) (hw _ (List.mem_of_getElem? (i := 68) rfl)) (by decide) E_r0 (rmTake l Z a0 hw [] r0 v0 (.int aw) (.ref hb) dm h0 n0 Zs ⟨E_r0, F_r0_lastSent, F_r0_awaitingFlush, F_r0_held, F_r0_deferredMove⟩ g_r0) (by decide) (by decide) eh0 (by rw [hml]; rfl) (rest := []) (Nat.le_of_eq rfl) (by decide) (by decide) (lenOf pd_10 rfl) rfl d4_64 (pc' := 67) rfl ?_
              intro T40 v40 L40 X40 hQ40
              obtain ⟨rfl, Nq40, Kq40, Oq40⟩ := hQ40
              have N40 := Fr.app N0 Nq40
              have E_r0 := E_r0.keep Kq40
              have E_hb := E_hb.keep Kq40
              have F_hb_modCount := F_hb_modCount.keep Kq40 (ninS ne_r0_hb.symm nin0)
              have F_hb_elementData := F_hb_elementData.keep Kq40 (ninS ne_r0_hb.symm nin0)
              have F_hb_size := F_hb_size.keep Kq40 (ninS ne_r0_hb.symm nin0)
              have V_e := V_e.keep Kq40 (ninS ne_r0_e.symm nin0)
              have O := O.keep Kq40 (allS g_r0 all0)
              have Zs := Nat.le_trans Zs Kq40.1
              show GolF _ _ _ _ _ _ _ T40 m 67 #[.val (.ref r0), .val (.int (1 : Int32)), .val (.int p2), .val (.long q3), .second, .val (.int (p2 &&& (7 : Int32)))] [(.int dm)]
              have Zk := Nat.le_trans Zk Kq40.1
              obtain ⟨E_r0, F_r0_lastSent, F_r0_awaitingFlush, F_r0_held, F_r0_deferredMove⟩ := Oq40
              refine Gol.pop X40 hx hby d4_67 (pc' := 68) rfl rfl ?_
              refine Gol.iloadN X40 hx hby d4_68 (pc' := 69) rfl rfl ?_
              exact Gol.retN X40 hx hby (t := .boolean) Bd.returns (by simp) Bd.notSynchronized d4_69 rfl ⟨(1 : Int32), rfl, N40, Zk, O, ⟨v0, aw, (-1 : Int32), Or.inr ⟨rfl, hb, mo, ⟨E_r0, F_r0_lastSent, F_r0_awaitingFlush, F_r0_held, F_r0_deferredMove⟩, g_hb, ne_r0_hb, Or.inr ⟨e, ke, vs, sz, ⟨E_hb, F_hb_modCount, F_hb_elementData, F_hb_size⟩, by omega, g_e, ne_r0_e, ne_hb_e, hlen, V_e, ov⟩⟩⟩⟩ (by decide) (by decide)
            · skip
              refine Gol.icmpYes X0 hx hby d4_60 (pc' := 70) (by decide) (feq hc60_39).2 ?_
              refine Gol.iload X0 hx hby d4_70 (pc' := 72) rfl rfl ?_
              refine Gol.iconst X0 hx hby d4_72 (pc' := 73) rfl (z := (5 : Int32)) rfl ?_
              by_cases hc73_41 : (p2 &&& (7 : Int32)) = (5 : Int32)
              · skip
                refine Gol.icmpNo X0 hx hby d4_73 (pc' := 76) rfl (teq hc73_41).2 ?_
                refine Gol.aloadN X0 hx hby d4_76 (pc' := 77) rfl rfl rfl ?_
                refine Gol.callV X0 hx hby hZ hown 0 [] (a := r0) (hw _ (List.mem_of_getElem? (i := 74) rfl)) (hw _ (List.mem_of_getElem? (i := 75) rfl)) (notFace_of_selects (args := #[]) (mvT hZ (hw _ (List.mem_of_getElem? (i := 77) rfl)))) (hw _ (List.mem_of_getElem? (i := 77) rfl)) (hw _ (List.mem_of_getElem? (i := 76) rfl)) (hw _ (List.mem_of_getElem? (i := 2) rfl)) (hw _ (List.mem_of_getElem? (i := 78) rfl)) (by decide) E_r0 (rmAwait l Z a0 hw [] r0 v0 (.ref hb) (.int dm) aw h0 n0 Zs ⟨E_r0, F_r0_lastSent, F_r0_awaitingFlush, F_r0_held, F_r0_deferredMove⟩ g_r0) (by decide) (by decide) eh0 (by rw [hml]; rfl) (rest := []) (Nat.le_of_eq rfl) (by decide) (by decide) (lenOf pd_11 rfl) rfl d4_77 (pc' := 80) rfl ?_
                intro T42 v42 L42 X42 hQ42
                obtain ⟨z42, az42, rfl, Nq42, Kq42, Oq42⟩ := hQ42
                have N42 := Fr.app N0 Nq42
                have E_r0 := E_r0.keep Kq42
                have E_hb := E_hb.keep Kq42
                have F_hb_modCount := F_hb_modCount.keep Kq42 (ninS ne_r0_hb.symm nin0)
                have F_hb_elementData := F_hb_elementData.keep Kq42 (ninS ne_r0_hb.symm nin0)
                have F_hb_size := F_hb_size.keep Kq42 (ninS ne_r0_hb.symm nin0)
                have V_e := V_e.keep Kq42 (ninS ne_r0_e.symm nin0)
                have O := O.keep Kq42 (allS g_r0 all0)
                have Zs := Nat.le_trans Zs Kq42.1
                show GolF _ _ _ _ _ _ _ T42 m 80 #[.val (.ref r0), .val (.int (1 : Int32)), .val (.int p2), .val (.long q3), .second, .val (.int (p2 &&& (7 : Int32)))] [(.int z42)]
                have Zk := Nat.le_trans Zk Kq42.1
                obtain ⟨E_r0, F_r0_lastSent, F_r0_awaitingFlush, F_r0_held, F_r0_deferredMove⟩ := Oq42
                refine Gol.pop X42 hx hby d4_80 (pc' := 81) rfl rfl ?_
                refine Gol.iloadN X42 hx hby d4_81 (pc' := 82) rfl rfl ?_
                exact Gol.retN X42 hx hby (t := .boolean) Bd.returns (by simp) Bd.notSynchronized d4_82 rfl ⟨(1 : Int32), rfl, N42, Zk, O, ⟨v0, az42, dm, Or.inr ⟨rfl, hb, mo, ⟨E_r0, F_r0_lastSent, F_r0_awaitingFlush, F_r0_held, F_r0_deferredMove⟩, g_hb, ne_r0_hb, Or.inr ⟨e, ke, vs, sz, ⟨E_hb, F_hb_modCount, F_hb_elementData, F_hb_size⟩, by omega, g_e, ne_r0_e, ne_hb_e, hlen, V_e, ov⟩⟩⟩⟩ (by decide) (by decide)
              · skip
                refine Gol.icmpYes X0 hx hby d4_73 (pc' := 83) (by decide) (feq hc73_41).2 ?_
                refine Gol.iload X0 hx hby d4_83 (pc' := 85) rfl rfl ?_
                refine Gol.bipush X0 hx hby d4_85 (pc' := 87) rfl (z := (6 : Int32)) rfl ?_
                by_cases hc87_43 : (p2 &&& (7 : Int32)) = (6 : Int32)
                · skip
                  refine Gol.icmpNo X0 hx hby d4_87 (pc' := 90) rfl (teq hc87_43).2 ?_
                  refine Gol.aloadN X0 hx hby d4_90 (pc' := 91) rfl rfl rfl ?_
                  refine Gol.callV X0 hx hby hZ hown 0 [] (a := r0) (hw _ (List.mem_of_getElem? (i := 81) rfl)) (hw _ (List.mem_of_getElem? (i := 82) rfl)) (notFace_of_selects (args := #[]) (mvT hZ (hw _ (List.mem_of_getElem? (i := 84) rfl)))) (hw _ (List.mem_of_getElem? (i := 84) rfl)) (hw _ (List.mem_of_getElem? (i := 83) rfl)) (hw _ (List.mem_of_getElem? (i := 2) rfl)) (hw _ (List.mem_of_getElem? (i := 85) rfl)) (by decide) E_r0 (rmFlushed l Z a0 hw [] r0 v0 (.int aw) (.ref hb) (.int dm) h0 n0 Zs ⟨E_r0, F_r0_lastSent, F_r0_awaitingFlush, F_r0_held, F_r0_deferredMove⟩ g_r0) (by decide) (by decide) eh0 (by rw [hml]; rfl) (rest := []) (Nat.le_of_eq rfl) (by decide) (by decide) (lenOf pd_0 rfl) rfl d4_91 (pc' := 94) rfl ?_
                  intro T44 v44 L44 X44 hQ44
                  obtain ⟨rfl, Nq44, Kq44, Oq44⟩ := hQ44
                  have N44 := Fr.app N0 Nq44
                  have E_r0 := E_r0.keep Kq44
                  have E_hb := E_hb.keep Kq44
                  have F_hb_modCount := F_hb_modCount.keep Kq44 (ninS ne_r0_hb.symm nin0)
                  have F_hb_elementData := F_hb_elementData.keep Kq44 (ninS ne_r0_hb.symm nin0)
                  have F_hb_size := F_hb_size.keep Kq44 (ninS ne_r0_hb.symm nin0)
                  have V_e := V_e.keep Kq44 (ninS ne_r0_e.symm nin0)
                  have O := O.keep Kq44 (allS g_r0 all0)
                  have Zs := Nat.le_trans Zs Kq44.1
                  show GolF _ _ _ _ _ _ _ T44 m 94 #[.val (.ref r0), .val (.int (1 : Int32)), .val (.int p2), .val (.long q3), .second, .val (.int (p2 &&& (7 : Int32)))] []
                  have Zk := Nat.le_trans Zk Kq44.1
                  obtain ⟨E_r0, F_r0_lastSent, F_r0_awaitingFlush, F_r0_held, F_r0_deferredMove⟩ := Oq44
                  refine Gol.iloadN X44 hx hby d4_94 (pc' := 95) rfl rfl ?_
                  exact Gol.retN X44 hx hby (t := .boolean) Bd.returns (by simp) Bd.notSynchronized d4_95 rfl ⟨(1 : Int32), rfl, N44, Zk, O, ⟨v0, (0 : Int32), dm, Or.inr ⟨rfl, hb, mo, ⟨E_r0, F_r0_lastSent, F_r0_awaitingFlush, F_r0_held, F_r0_deferredMove⟩, g_hb, ne_r0_hb, Or.inr ⟨e, ke, vs, sz, ⟨E_hb, F_hb_modCount, F_hb_elementData, F_hb_size⟩, by omega, g_e, ne_r0_e, ne_hb_e, hlen, V_e, ov⟩⟩⟩⟩ (by decide) (by decide)
                · skip
                  refine Gol.icmpYes X0 hx hby d4_87 (pc' := 96) (by decide) (feq hc87_43).2 ?_
                  refine Gol.iloadN X0 hx hby d4_96 (pc' := 97) rfl rfl ?_
                  refine Gol.ifNo X0 hx hby d4_97 (pc' := 100) rfl ((if0 _ _).trans (feq (by decide : ¬ ((1 : Int32) = (0 : Int32)))).1) ?_
                  refine Gol.aloadN X0 hx hby d4_100 (pc' := 101) rfl rfl rfl ?_
                  refine Gol.aconstNull X0 hx hby d4_101 (pc' := 102) rfl ?_
                  refine Gol.aconstNull X0 hx hby d4_102 (pc' := 103) rfl ?_
                  refine Gol.callV X0 hx hby hZ hown 0 [.null, .null] (a := r0) (hw _ (List.mem_of_getElem? (i := 86) rfl)) (hw _ (List.mem_of_getElem? (i := 87) rfl)) (notFace_of_selects (args := #[]) (mvT hZ (hw _ (List.mem_of_getElem? (i := 89) rfl)))) (hw _ (List.mem_of_getElem? (i := 89) rfl)) (hw _ (List.mem_of_getElem? (i := 88) rfl)) (hw _ (List.mem_of_getElem? (i := 2) rfl)) (hw _ (List.mem_of_getElem? (i := 90) rfl)) (by decide) E_r0 (rmHoldB l Z a0 hw [] r0 v0 (.int aw) (.int dm) hb mo e ke vs sz h0 n0 Zs ⟨E_r0, F_r0_lastSent, F_r0_awaitingFlush, F_r0_held, F_r0_deferredMove⟩ g_r0 g_hb ne_r0_hb ⟨E_hb, F_hb_modCount, F_hb_elementData, F_hb_size⟩ (by omega) hlen V_e ov g_e ne_hb_e ne_r0_e) (by decide) (by decide) eh0 (by rw [hml]; rfl) (rest := []) (Nat.le_of_eq rfl) (by decide) (by decide) (lenOf pd_5 rfl) rfl d4_103 (pc' := 106) rfl ?_
                  intro T45 v45 L45 X45 hQ45
                  obtain ⟨rfl, Nq45, Kq45, x45, mz45, Oq45, Vq45, hx45, Hq45⟩ := hQ45
                  have N45 := Fr.app N0 Nq45
                  have lo_r0_x45 : r0 < x45 := Nat.lt_of_lt_of_le E_r0.lt hx45
                  have ne_r0_x45 : r0 ≠ x45 := Nat.ne_of_lt lo_r0_x45
                  have lo_hb_x45 : hb < x45 := Nat.lt_of_lt_of_le E_hb.lt hx45
                  have ne_hb_x45 : hb ≠ x45 := Nat.ne_of_lt lo_hb_x45
                  have lo_e_x45 : e < x45 := Nat.lt_of_lt_of_le V_e.lt hx45
                  have ne_e_x45 : e ≠ x45 := Nat.ne_of_lt lo_e_x45
                  have g_x45 : n0 ≤ x45 := Nat.le_trans Zs hx45
                  have E_r0 := E_r0.keep Kq45
                  have E_hb := E_hb.keep Kq45
                  have F_r0_lastSent := F_r0_lastSent.keep Kq45 (ninS ne_r0_hb (ninS ne_r0_e nin0))
                  have F_r0_awaitingFlush := F_r0_awaitingFlush.keep Kq45 (ninS ne_r0_hb (ninS ne_r0_e nin0))
                  have F_r0_held := F_r0_held.keep Kq45 (ninS ne_r0_hb (ninS ne_r0_e nin0))
                  have F_r0_deferredMove := F_r0_deferredMove.keep Kq45 (ninS ne_r0_hb (ninS ne_r0_e nin0))
                  have O := O.keep Kq45 (allS g_hb (allS g_e all0))
                  have Zs := Nat.le_trans Zs Kq45.1
                  show GolF _ _ _ _ _ _ _ T45 m 106 #[.val (.ref r0), .val (.int (1 : Int32)), .val (.int p2), .val (.long q3), .second, .val (.int (p2 &&& (7 : Int32)))] []
                  have Zk := Nat.le_trans Zk Kq45.1
                  obtain ⟨E_hb, F_hb_modCount, F_hb_elementData, F_hb_size⟩ := Oq45
                  have V_e := Vq45
                  obtain ⟨E_x45, F_x45_receiver, F_x45_send⟩ := Hq45
                  refine Gol.iconst X45 hx hby d4_106 (pc' := 107) rfl (z := (1 : Int32)) rfl ?_
                  exact Gol.retN X45 hx hby (t := .boolean) Bd.returns (by simp) Bd.notSynchronized d4_107 rfl ⟨(1 : Int32), rfl, N45, Zk, O, ⟨v0, aw, dm, Or.inr ⟨rfl, hb, mz45, ⟨E_r0, F_r0_lastSent, F_r0_awaitingFlush, F_r0_held, F_r0_deferredMove⟩, g_hb, ne_r0_hb, Or.inr ⟨e, ke, (vs.set sz (.ref x45)), (sz + 1), ⟨E_hb, F_hb_modCount, F_hb_elementData, F_hb_size⟩, by omega, g_e, ne_r0_e, ne_hb_e, (by rw [List.length_set]; exact hlen), V_e, ov⟩⟩⟩⟩ (by decide) (by decide)
theorem own_empty {s : State} {args : Array Value} {t : Term} {a : Addr} {cl : Cell} {ty : FieldType} (hf : Fit s) (ev : t.eval args s none [] s = some (.ref a)) (A : Arr s s.heap a cl ty) (q : (Jvm.Cond.eq (Jvm.Term.length t) (Jvm.Term.int (0 : Int32))).value args s none s [] = some true) : Arv s s.heap a cl.cls ty (0 : Int32) [] .null := by
  obtain ⟨x, y, hx, hy, -, -⟩ := cmp_v (Or.inl q)
  obtain ⟨b, cell, e1, e2, e3, rfl⟩ := Jvm.Lib.length_spec hx
  cases ev.symm.trans e1
  cases (A.fin (Vm.Alike.refl _)).symm.trans e2
  have z := gotT (Cond.eq_ints hx (Term.int_eval 0)) q
  exact Arv.start hf A e3 z (by decide) rfl trivial
theorem pn_0 : plainName "com/example/ballast/ballast/runtime/OutboxIsHoldingPinLaw" = true := by first | (simp [plainName, overriddenIn]; done) | decide +kernel
theorem ef_0 (m : MethodId) (p0 : Int32) (p1 : Int32) (p2 : Int32) (q3 : Int64) : entryFrame m #[(.int p0), (.int p1), (.int p2), (.long q3)] maxLocals = mkF m 0 #[.val (.int p0), .val (.int p1), .val (.int p2), .val (.long q3), .second, .unset, .unset, .unset, .unset, .unset] [] := by first | (simp [entryFrame, mkF, argsToLocals, Value.category, maxLocals]; done) | rfl
abbrev Q0 (Z : State) (p0 : Int32) (p1 : Int32) (p2 : Int32) (q3 : Int64) (e0 : Addr) (k0 : ClassId) (h0 : Heap) (n0 : Nat) (v : Option Value) (h : Heap) (L : List Loc) : Prop := v = some (.int 1) ∧ Fr n0 L
set_option maxRecDepth 65536 in
set_option maxHeartbeats 40000000 in
theorem rm0 (l : Launch) (Z : State) (a0 : Array Value) (hw : ∀ d ∈ tables_1, d.before a0 Z = true) (ws : List Jvm.Cond) (p0 : Int32) (p1 : Int32) (p2 : Int32) (q3 : Int64) (e0 : Addr) (k0 : ClassId) (h0 : Heap) (n0 : Nat) (Z0 : n0 ≤ h0.size) (S0 : Sta Z Z.heap "java/util/ArrayList" "DEFAULTCAPACITY_EMPTY_ELEMENTDATA" "[Ljava/lang/Object;" (.ref e0)) (V0 : Arv Z Z.heap e0 k0 (.object "java/lang/Object") (0 : Int32) [] .null) (O : Old Z n0 h0) :
    MetFree l x (head1 (Jvm.Cond.code x code maxLocals ret :: ws) room_1) (fun a U => a = #[(.int p0), (.int p1), (.int p2), (.long q3)] ∧ Z.Warmed39 U.vm ∧ U.heap = h0) (fun _ _ _ _ _ => True) (fun _ U o U' => ∃ v L, o = .returned v ∧ Q0 Z p0 p1 p2 q3 e0 k0 h0 n0 v U'.heap L ∧ FrameEnd U o U' L 7 40) := by
  refine MetFree.of_bodySF (plainFor_of_name pn_0) hisR ?_
  intro p ev s m args below meth c s₁ Bd hml0 hP hK
  obtain ⟨rfl, hZ, hh⟩ := hP
  have hx := Bd.exec
  have hby := Bd.bytes
  have hml : c.maxLocals = 10 := hml0
  have hown : s.vm.findClass "com/example/ballast/ballast/runtime/OutboxIsHoldingPinLaw" = some m.cls := findClass_of_methodNamed Bd.named
  have hnm := (name_of_methodNamed Bd.named Bd.method).1
  have X0 : Stand p l ev room_1 s m #[(.int p0), (.int p1), (.int p2), (.long q3)] below meth c s₁ [] 0 0 := Stand.of_body Bd
  have eh0 : s₁.heap = h0 := by rw [← hh, Bd.state]; rfl
  have N0 := Fr.nil n0
  have Zs := Z0
  show Gol p ev below (FrameEnd s) (Q0 Z p0 p1 p2 q3 e0 k0 h0 n0) 7 40 (s₁.setTop (entryFrame m #[(.int p0), (.int p1), (.int p2), (.long q3)] maxLocals))
  rw [ef_0]
  show GolF _ _ _ _ _ _ _ s₁ m 0 #[.val (.int p0), .val (.int p1), .val (.int p2), .val (.long q3), .second, .unset, .unset, .unset, .unset, .unset] []
  refine Gol.newO X0 hx hby hZ hown (hw _ (List.mem_of_getElem? (i := 0) rfl)) (hw _ (List.mem_of_getElem? (i := 1) rfl)) (hw _ (List.mem_of_getElem? (i := 2) rfl)) eh0 at_0 (pc' := 3) rfl (by decide) (by decide) ?_
  intro T1 h1 b1 g1 X1 e1 E1 A1 D1
  have g_b1 : n0 ≤ b1 := Nat.le_trans Zs (Nat.le_of_eq g1.symm)
  have O := O.ext E1
  have Zs := Nat.le_trans Zs E1.1
  have E_b1 := A1
  have F_b1_lastSent : Fld Z h1 b1 "com/example/ballast/ballast/runtime/Outbox" "lastSent" "J" (.long (0 : Int64)) := D1 (Or.inl (hw _ (List.mem_of_getElem? (i := 11) rfl))) (ty := .long) (by decide)
  have F_b1_deferredMove : Fld Z h1 b1 "com/example/ballast/ballast/runtime/Outbox" "deferredMove" "I" (.int (0 : Int32)) := D1 (Or.inl (hw _ (List.mem_of_getElem? (i := 13) rfl))) (ty := .int) (by decide)
  have F_b1_held : Fld Z h1 b1 "com/example/ballast/ballast/runtime/Outbox" "held" "Ljava/util/List;" .null := D1 (Or.inl (hw _ (List.mem_of_getElem? (i := 20) rfl))) (ty := (.object "java/util/List")) (by decide)
  have F_b1_awaitingFlush : Fld Z h1 b1 "com/example/ballast/ballast/runtime/Outbox" "awaitingFlush" "Z" (.int (0 : Int32)) := D1 (Or.inl (hw _ (List.mem_of_getElem? (i := 80) rfl))) (ty := .boolean) (by decide)
  refine Gol.dup X1 hx hby at_3 (pc' := 4) rfl rfl ?_
  refine Gol.callI X1 hx hby hZ hown 1 [] (a := b1) (hw _ (List.mem_of_getElem? (i := 3) rfl)) (hw _ (List.mem_of_getElem? (i := 4) rfl)) (hw _ (List.mem_of_getElem? (i := 2) rfl)) rfl (hw _ (List.mem_of_getElem? (i := 5) rfl)) rfl (by decide) (rmInit l Z a0 hw [] b1  h1 n0 Zs ⟨E_b1, F_b1_lastSent, F_b1_awaitingFlush, F_b1_held, F_b1_deferredMove⟩ g_b1) (by decide) (by decide) e1 (by rw [hml]; rfl) (rest := [(.ref b1)]) (Nat.le_of_eq rfl) (by decide) (by decide) (lenOf pd_0 rfl) rfl at_4 (pc' := 7) rfl ?_
  intro T2 v2 L2 X2 hQ2
  obtain ⟨rfl, Nq2, Kq2, Oq2⟩ := hQ2
  have N2 := Fr.app N0 Nq2
  have E_b1 := E_b1.keep Kq2
  have O := O.keep Kq2 (allS g_b1 all0)
  have Zs := Nat.le_trans Zs Kq2.1
  show GolF _ _ _ _ _ _ _ T2 m 7 #[.val (.int p0), .val (.int p1), .val (.int p2), .val (.long q3), .second, .unset, .unset, .unset, .unset, .unset] [(.ref b1)]
  obtain ⟨E_b1, F_b1_lastSent, F_b1_awaitingFlush, F_b1_held, F_b1_deferredMove⟩ := Oq2
  have hS2 : HS Z T2.heap n0 b1 e0 0 0 := ⟨_, _, _, Or.inl ⟨rfl, ⟨E_b1, F_b1_lastSent, F_b1_awaitingFlush, F_b1_held, F_b1_deferredMove⟩⟩⟩
  refine Gol.astore X2 hx hby at_7 (pc' := 9) rfl rfl (l' := #[.val (.int p0), .val (.int p1), .val (.int p2), .val (.long q3), .second, .val (.ref b1), .unset, .unset, .unset, .unset]) rfl ?_
  refine Gol.aload X2 hx hby at_9 (pc' := 11) rfl rfl rfl ?_
  refine Gol.callV X2 hx hby hZ hown 0 [] (a := b1) (hw _ (List.mem_of_getElem? (i := 14) rfl)) (hw _ (List.mem_of_getElem? (i := 15) rfl)) (notFace_of_selects (args := #[]) (mvT hZ (hw _ (List.mem_of_getElem? (i := 17) rfl)))) (hw _ (List.mem_of_getElem? (i := 17) rfl)) (hw _ (List.mem_of_getElem? (i := 16) rfl)) (hw _ (List.mem_of_getElem? (i := 2) rfl)) (hw _ (List.mem_of_getElem? (i := 18) rfl)) (by decide) E_b1 (rmHol l Z a0 hw [] b1 e0 (0 : Int32) 0 T2.heap n0 Zs hS2) (by decide) (by decide) rfl (by rw [hml]; rfl) (rest := []) (Nat.le_of_eq rfl) (by decide) (by decide) (lenOf pd_11 rfl) rfl at_11 (pc' := 14) rfl ?_
  intro T3 v3 L3 X3 hQ3
  obtain ⟨rfl, Nq3, eq3⟩ := hQ3
  have N3 := Fr.app N2 Nq3
  show GolF _ _ _ _ _ _ _ T3 m 14 #[.val (.int p0), .val (.int p1), .val (.int p2), .val (.long q3), .second, .val (.ref b1), .unset, .unset, .unset, .unset] [(.int (0 : Int32))]
  refine Gol.ifNo X3 hx hby at_14 (pc' := 17) rfl ((if0 _ _).trans (teq (by decide : (0 : Int32) = (0 : Int32))).2) ?_
  refine Gol.iconst X3 hx hby at_17 (pc' := 18) rfl (z := (1 : Int32)) rfl ?_
  refine Gol.goto X3 hx hby at_18 (pc' := 22) (by decide) ?_
  refine Gol.istore X3 hx hby at_22 (pc' := 24) rfl (l' := #[.val (.int p0), .val (.int p1), .val (.int p2), .val (.long q3), .second, .val (.ref b1), .val (.int (1 : Int32)), .unset, .unset, .unset]) rfl ?_
  refine Gol.aload X3 hx hby at_24 (pc' := 26) rfl rfl rfl ?_
  refine Gol.iconst X3 hx hby at_26 (pc' := 27) rfl (z := (0 : Int32)) rfl ?_
  refine Gol.iloadN X3 hx hby at_27 (pc' := 28) rfl rfl ?_
  refine Gol.lloadN X3 hx hby at_28 (pc' := 29) rfl rfl ?_
  refine Gol.callS X3 hx hby hZ hown 0 [(.ref b1), (.int (0 : Int32)), (.int p0), (.long q3)] (hw _ (List.mem_of_getElem? (i := 21) rfl)) (hw _ (List.mem_of_getElem? (i := 22) rfl)) (hw _ (List.mem_of_getElem? (i := 23) rfl)) (hw _ (List.mem_of_getElem? (i := 24) rfl)) (by decide) (rmApply l Z a0 hw [] b1 (0 : Int32) p0 q3 0 e0 k0 T2.heap n0 Zs (by decide) g_b1 hS2 S0 V0 O) (by decide) (by decide) eq3 (by rw [hml]; rfl) (rest := []) (Nat.le_of_eq rfl) (by decide) (by decide) (lenOf pd_12 rfl) rfl at_29 (pc' := 32) rfl ?_
  intro T4 v4 L4 X4 hQ4
  obtain ⟨w4, rfl, Nq4, hz4, Oq4, hS4⟩ := hQ4
  have N4 := Fr.app N3 Nq4
  have Zs := Nat.le_trans Zs hz4
  show GolF _ _ _ _ _ _ _ T4 m 32 #[.val (.int p0), .val (.int p1), .val (.int p2), .val (.long q3), .second, .val (.ref b1), .val (.int (1 : Int32)), .unset, .unset, .unset] [(.int w4)]
  have E_b1 : Exa Z T4.heap b1 "com/example/ballast/ballast/runtime/Outbox" := by
    obtain ⟨_, _, _, ⟨-, Q⟩ | ⟨-, _, _, Q, -⟩⟩ := hS4
    · exact Q.1
    · exact Q.1
  have O := Oq4
  refine Gol.istore X4 hx hby at_32 (pc' := 34) rfl (l' := #[.val (.int p0), .val (.int p1), .val (.int p2), .val (.long q3), .second, .val (.ref b1), .val (.int (1 : Int32)), .val (.int w4), .unset, .unset]) rfl ?_
  refine Gol.iload X4 hx hby at_34 (pc' := 36) rfl rfl ?_
  refine Gol.ifNo X4 hx hby at_36 (pc' := 39) rfl ((if0 _ _).trans (feq (by decide : ¬ ((1 : Int32) = (0 : Int32)))).1) ?_
  refine Gol.aload X4 hx hby at_39 (pc' := 41) rfl rfl rfl ?_
  refine Gol.callV X4 hx hby hZ hown 0 [] (a := b1) (hw _ (List.mem_of_getElem? (i := 14) rfl)) (hw _ (List.mem_of_getElem? (i := 15) rfl)) (notFace_of_selects (args := #[]) (mvT hZ (hw _ (List.mem_of_getElem? (i := 17) rfl)))) (hw _ (List.mem_of_getElem? (i := 17) rfl)) (hw _ (List.mem_of_getElem? (i := 16) rfl)) (hw _ (List.mem_of_getElem? (i := 2) rfl)) (hw _ (List.mem_of_getElem? (i := 18) rfl)) (by decide) E_b1 (rmHol l Z a0 hw [] b1 e0 w4 1 T4.heap n0 Zs hS4) (by decide) (by decide) rfl (by rw [hml]; rfl) (rest := []) (Nat.le_of_eq rfl) (by decide) (by decide) (lenOf pd_11 rfl) rfl at_41 (pc' := 44) rfl ?_
  intro T5 v5 L5 X5 hQ5
  obtain ⟨rfl, Nq5, eq5⟩ := hQ5
  have N5 := Fr.app N4 Nq5
  show GolF _ _ _ _ _ _ _ T5 m 44 #[.val (.int p0), .val (.int p1), .val (.int p2), .val (.long q3), .second, .val (.ref b1), .val (.int (1 : Int32)), .val (.int w4), .unset, .unset] [(.int w4)]
  refine Gol.iload X5 hx hby at_44 (pc' := 46) rfl rfl ?_
  refine Gol.icmpNo X5 hx hby at_46 (pc' := 49) rfl (teq (rfl : w4 = w4)).2 ?_
  refine Gol.iconst X5 hx hby at_49 (pc' := 50) rfl (z := (1 : Int32)) rfl ?_
  refine Gol.goto X5 hx hby at_50 (pc' := 54) (by decide) ?_
  refine Gol.istore X5 hx hby at_54 (pc' := 56) rfl (l' := #[.val (.int p0), .val (.int p1), .val (.int p2), .val (.long q3), .second, .val (.ref b1), .val (.int (1 : Int32)), .val (.int w4), .unset, .unset]) rfl ?_
  refine Gol.aload X5 hx hby at_56 (pc' := 58) rfl rfl rfl ?_
  refine Gol.iload X5 hx hby at_58 (pc' := 60) rfl rfl ?_
  refine Gol.iloadN X5 hx hby at_60 (pc' := 61) rfl rfl ?_
  refine Gol.lloadN X5 hx hby at_61 (pc' := 62) rfl rfl ?_
  refine Gol.callS X5 hx hby hZ hown 0 [(.ref b1), (.int w4), (.int p1), (.long q3)] (hw _ (List.mem_of_getElem? (i := 21) rfl)) (hw _ (List.mem_of_getElem? (i := 22) rfl)) (hw _ (List.mem_of_getElem? (i := 23) rfl)) (hw _ (List.mem_of_getElem? (i := 24) rfl)) (by decide) (rmApply l Z a0 hw [] b1 w4 p1 q3 1 e0 k0 T4.heap n0 Zs (by decide) g_b1 hS4 S0 V0 O) (by decide) (by decide) eq5 (by rw [hml]; rfl) (rest := []) (Nat.le_of_eq rfl) (by decide) (by decide) (lenOf pd_12 rfl) rfl at_62 (pc' := 65) rfl ?_
  intro T6 v6 L6 X6 hQ6
  obtain ⟨w6, rfl, Nq6, hz6, Oq6, hS6⟩ := hQ6
  have N6 := Fr.app N5 Nq6
  have Zs := Nat.le_trans Zs hz6
  show GolF _ _ _ _ _ _ _ T6 m 65 #[.val (.int p0), .val (.int p1), .val (.int p2), .val (.long q3), .second, .val (.ref b1), .val (.int (1 : Int32)), .val (.int w4), .unset, .unset] [(.int w6)]
  have E_b1 : Exa Z T6.heap b1 "com/example/ballast/ballast/runtime/Outbox" := by
    obtain ⟨_, _, _, ⟨-, Q⟩ | ⟨-, _, _, Q, -⟩⟩ := hS6
    · exact Q.1
    · exact Q.1
  have O := Oq6
  refine Gol.istore X6 hx hby at_65 (pc' := 67) rfl (l' := #[.val (.int p0), .val (.int p1), .val (.int p2), .val (.long q3), .second, .val (.ref b1), .val (.int (1 : Int32)), .val (.int w4), .val (.int w6), .unset]) rfl ?_
  refine Gol.iload X6 hx hby at_67 (pc' := 69) rfl rfl ?_
  refine Gol.ifNo X6 hx hby at_69 (pc' := 72) rfl ((if0 _ _).trans (feq (by decide : ¬ ((1 : Int32) = (0 : Int32)))).1) ?_
  refine Gol.aload X6 hx hby at_72 (pc' := 74) rfl rfl rfl ?_
  refine Gol.callV X6 hx hby hZ hown 0 [] (a := b1) (hw _ (List.mem_of_getElem? (i := 14) rfl)) (hw _ (List.mem_of_getElem? (i := 15) rfl)) (notFace_of_selects (args := #[]) (mvT hZ (hw _ (List.mem_of_getElem? (i := 17) rfl)))) (hw _ (List.mem_of_getElem? (i := 17) rfl)) (hw _ (List.mem_of_getElem? (i := 16) rfl)) (hw _ (List.mem_of_getElem? (i := 2) rfl)) (hw _ (List.mem_of_getElem? (i := 18) rfl)) (by decide) E_b1 (rmHol l Z a0 hw [] b1 e0 w6 2 T6.heap n0 Zs hS6) (by decide) (by decide) rfl (by rw [hml]; rfl) (rest := []) (Nat.le_of_eq rfl) (by decide) (by decide) (lenOf pd_11 rfl) rfl at_74 (pc' := 77) rfl ?_
  intro T7 v7 L7 X7 hQ7
  obtain ⟨rfl, Nq7, eq7⟩ := hQ7
  have N7 := Fr.app N6 Nq7
  show GolF _ _ _ _ _ _ _ T7 m 77 #[.val (.int p0), .val (.int p1), .val (.int p2), .val (.long q3), .second, .val (.ref b1), .val (.int (1 : Int32)), .val (.int w4), .val (.int w6), .unset] [(.int w6)]
  refine Gol.iload X7 hx hby at_77 (pc' := 79) rfl rfl ?_
  refine Gol.icmpNo X7 hx hby at_79 (pc' := 82) rfl (teq (rfl : w6 = w6)).2 ?_
  refine Gol.iconst X7 hx hby at_82 (pc' := 83) rfl (z := (1 : Int32)) rfl ?_
  refine Gol.goto X7 hx hby at_83 (pc' := 87) (by decide) ?_
  refine Gol.istore X7 hx hby at_87 (pc' := 89) rfl (l' := #[.val (.int p0), .val (.int p1), .val (.int p2), .val (.long q3), .second, .val (.ref b1), .val (.int (1 : Int32)), .val (.int w4), .val (.int w6), .unset]) rfl ?_
  refine Gol.aload X7 hx hby at_89 (pc' := 91) rfl rfl rfl ?_
  refine Gol.iload X7 hx hby at_91 (pc' := 93) rfl rfl ?_
  refine Gol.iloadN X7 hx hby at_93 (pc' := 94) rfl rfl ?_
  refine Gol.lloadN X7 hx hby at_94 (pc' := 95) rfl rfl ?_
  refine Gol.callS X7 hx hby hZ hown 0 [(.ref b1), (.int w6), (.int p2), (.long q3)] (hw _ (List.mem_of_getElem? (i := 21) rfl)) (hw _ (List.mem_of_getElem? (i := 22) rfl)) (hw _ (List.mem_of_getElem? (i := 23) rfl)) (hw _ (List.mem_of_getElem? (i := 24) rfl)) (by decide) (rmApply l Z a0 hw [] b1 w6 p2 q3 2 e0 k0 T6.heap n0 Zs (by decide) g_b1 hS6 S0 V0 O) (by decide) (by decide) eq7 (by rw [hml]; rfl) (rest := []) (Nat.le_of_eq rfl) (by decide) (by decide) (lenOf pd_12 rfl) rfl at_95 (pc' := 98) rfl ?_
  intro T8 v8 L8 X8 hQ8
  obtain ⟨w8, rfl, Nq8, hz8, Oq8, hS8⟩ := hQ8
  have N8 := Fr.app N7 Nq8
  have Zs := Nat.le_trans Zs hz8
  show GolF _ _ _ _ _ _ _ T8 m 98 #[.val (.int p0), .val (.int p1), .val (.int p2), .val (.long q3), .second, .val (.ref b1), .val (.int (1 : Int32)), .val (.int w4), .val (.int w6), .unset] [(.int w8)]
  have E_b1 : Exa Z T8.heap b1 "com/example/ballast/ballast/runtime/Outbox" := by
    obtain ⟨_, _, _, ⟨-, Q⟩ | ⟨-, _, _, Q, -⟩⟩ := hS8
    · exact Q.1
    · exact Q.1
  have O := Oq8
  refine Gol.istore X8 hx hby at_98 (pc' := 100) rfl (l' := #[.val (.int p0), .val (.int p1), .val (.int p2), .val (.long q3), .second, .val (.ref b1), .val (.int (1 : Int32)), .val (.int w4), .val (.int w6), .val (.int w8)]) rfl ?_
  refine Gol.iload X8 hx hby at_100 (pc' := 102) rfl rfl ?_
  refine Gol.ifNo X8 hx hby at_102 (pc' := 105) rfl ((if0 _ _).trans (feq (by decide : ¬ ((1 : Int32) = (0 : Int32)))).1) ?_
  refine Gol.aload X8 hx hby at_105 (pc' := 107) rfl rfl rfl ?_
  refine Gol.callV X8 hx hby hZ hown 0 [] (a := b1) (hw _ (List.mem_of_getElem? (i := 14) rfl)) (hw _ (List.mem_of_getElem? (i := 15) rfl)) (notFace_of_selects (args := #[]) (mvT hZ (hw _ (List.mem_of_getElem? (i := 17) rfl)))) (hw _ (List.mem_of_getElem? (i := 17) rfl)) (hw _ (List.mem_of_getElem? (i := 16) rfl)) (hw _ (List.mem_of_getElem? (i := 2) rfl)) (hw _ (List.mem_of_getElem? (i := 18) rfl)) (by decide) E_b1 (rmHol l Z a0 hw [] b1 e0 w8 3 T8.heap n0 Zs hS8) (by decide) (by decide) rfl (by rw [hml]; rfl) (rest := []) (Nat.le_of_eq rfl) (by decide) (by decide) (lenOf pd_11 rfl) rfl at_107 (pc' := 110) rfl ?_
  intro T9 v9 L9 X9 hQ9
  obtain ⟨rfl, Nq9, eq9⟩ := hQ9
  have N9 := Fr.app N8 Nq9
  show GolF _ _ _ _ _ _ _ T9 m 110 #[.val (.int p0), .val (.int p1), .val (.int p2), .val (.long q3), .second, .val (.ref b1), .val (.int (1 : Int32)), .val (.int w4), .val (.int w6), .val (.int w8)] [(.int w8)]
  refine Gol.iload X9 hx hby at_110 (pc' := 112) rfl rfl ?_
  refine Gol.icmpNo X9 hx hby at_112 (pc' := 115) rfl (teq (rfl : w8 = w8)).2 ?_
  refine Gol.iconst X9 hx hby at_115 (pc' := 116) rfl (z := (1 : Int32)) rfl ?_
  refine Gol.goto X9 hx hby at_116 (pc' := 120) (by decide) ?_
  refine Gol.istore X9 hx hby at_120 (pc' := 122) rfl (l' := #[.val (.int p0), .val (.int p1), .val (.int p2), .val (.long q3), .second, .val (.ref b1), .val (.int (1 : Int32)), .val (.int w4), .val (.int w6), .val (.int w8)]) rfl ?_
  refine Gol.iload X9 hx hby at_122 (pc' := 124) rfl rfl ?_
  exact Gol.retN X9 hx hby (t := .boolean) Bd.returns (by simp) Bd.notSynchronized at_124 eq9 ⟨rfl, N9⟩ (by decide) (by decide)
set_option maxRecDepth 65536 in
set_option maxHeartbeats 40000000 in
theorem comes_1 {Post : Tables → Env → Array Value → State → Outcome → State → Prop} (hpost : ∀ tb e args s v u, (limb_1_1.after args s (.returned v) u = true ∧ limb_1_2.after args s (.returned v) u = true ∧ True) → FrameEnd s (.returned v) u (Jvm.fieldLocs frame_1_writes args s ++ Jvm.arrayLocs frame_1_arrays args s ++ Jvm.staticLocs frame_1_statics s) 24 128 → Post tb e args s (.returned v) u) :
    ArmFor flags0 classFile x code maxLocals ret World_1 tables_1 room_1 Calls_1 rest_1 Pre_1 Post := by
  intro l hfl _ _ p e ha hc hk s m args below hf hA hF happ hP
  obtain ⟨hcalls, hrest, hpre⟩ := hP
  obtain ⟨-, -, -, hnamed, -, -, -, hat⟩ := (Spec.applies_iff hf).mp happ
  obtain ⟨hg, hn⟩ := and_e (Cond.before_iff.mp (show (Jvm.Cond.and given_1 narrow_1).before args s = true from hpre))
  obtain ⟨gc, gr0⟩ := and_e hg
  obtain ⟨gk0, gr1⟩ := and_e gr0
  obtain ⟨gk1, gr2⟩ := and_e gr1
  obtain ⟨gk2, gr3⟩ := and_e gr2
  obtain ⟨w0, w1, w2, w3, rfl⟩ : ∃ w0 w1 w2 w3 : Value, args = #[w0, w1, w2, w3] := by
    have hs : args.size = 4 := by simpa [Cond.value, given_1] using gc
    obtain ⟨L⟩ := args
    match L, hs with
    | [w0, w1, w2, w3], _ => exact ⟨w0, w1, w2, w3, rfl⟩
  have hw := fun d (hd : d ∈ tables_1) => atoms_spec (ws := Jvm.Cond.code x code maxLocals ret :: tables_1) hat d (List.mem_cons_of_mem _ hd)
  have hfit : Fit s := fun {y c} hc i hi => by
    obtain ⟨ha, rfl⟩ := Array.getElem?_eq_some_iff.mp hc
    have q := List.all_eq_true.mp ((Array.all_eq_true_iff_forall_mem.mp hF) _ (Array.getElem_mem ha)) i (List.mem_range.mpr hi)
    simpa [Array.getElem?_eq_getElem hi] using q
  obtain ⟨hsets, hown0⟩ := atoms_of _ (rest_1_c_eq ▸ (show rest_1_c.before _ s = true from hrest))
  have hr0 := Cond.before_iff.mp hown0
  obtain ⟨i0, ei0⟩ := is_v gk0
  obtain rfl : w0 = (.int i0) := Option.some.inj ei0
  obtain ⟨i1, ei1⟩ := is_v gk1
  obtain rfl : w1 = (.int i1) := Option.some.inj ei1
  obtain ⟨i2, ei2⟩ := is_v gk2
  obtain rfl : w2 = (.int i2) := Option.some.inj ei2
  obtain ⟨i3, ei3⟩ := isL_v gr3
  obtain rfl : w3 = (.long i3) := Option.some.inj ei3
  have hs := fun i (d : Jvm.Cond) (hd : jdkStatics_1[i]? = some d) => hsets d (List.mem_of_getElem? hd)
  have qa := Cond.before_iff.mp (hs 6 _ rfl)
  have qx := hs 7 _ rfl
  have ql := Cond.before_iff.mp (hs 8 _ rfl)
  obtain ⟨e0, _, _, _, ev, -⟩ := Cond.exactly_spec qx
  have S0 := Sta.start ev (Or.inr ⟨hw _ (List.mem_of_getElem? (i := 32) rfl), hs 2 _ rfl⟩)
  obtain ⟨cl, Ar⟩ := Arr.start ev qa
  have V0 := own_empty hfit ev Ar ql
  obtain ⟨n, o, h1, h2, h3, _, L, rfl, ⟨rfl, N⟩, hq⟩ := rm0 l s _ hw tables_1 i0 i1 i2 i3 e0 cl.cls s.heap s.heap.size (Nat.le_refl _) S0 V0 (Old.start s) p e ha hc hk s m _ below hf ((Spec.applies_iff_loose hf).mp happ).1 ⟨rfl, State.Warmed39.refl s, rfl⟩ trivial
  refine ⟨n, _, h1, h2, h3, hpost _ _ _ _ _ _ ⟨Cond.after_iff.mpr rfl, Cond.after_iff.mpr (eq_i res_at (Term.int_eval (1)) rfl), trivial⟩ ⟨hq.1, hq.2.1, (hq.2.2.sift fun y hy => Or.inr (N y hy)).mono (by decide) (by decide)⟩⟩
theorem main_1_1 : Claimed_1_1 := comes_1 fun _ _ _ _ _ _ h hF => ⟨h.1, hF⟩
theorem main_1_2 : Claimed_1_2 := comes_1 fun _ _ _ _ _ _ h hF => ⟨h.2.1, hF⟩
end Jvm.Pilot.@@N@@
namespace Jvm.Pilot.@@N@@
open Jvm Jvm.ClassFile Sem Op Lib Jvm.Free Jvm.Stand Jvm.Pilot.@@N@@.Jvm.D
/-! MADE BY PROGRAM (witnessworld.py) out of the Statement's table words and the real class files: 19 classes; the members and pool entries that the words name. The judged class is class 1, her method 2. -/
namespace start1
open Jvm.ClassFile
def u (s : String) : CpInfo := .utf8 (stringToUtf16 s)
/-- a pool by its gaps: so many unusable entries, then the entry; so many at the end -/
def gap : Nat → List CpInfo → List CpInfo
  | 0, r => r
  | n + 1, r => .unusable :: gap n r
def poolList (es : List (Nat × CpInfo)) (last : Nat) : List CpInfo := es.foldr (fun e r => gap e.1 (e.2 :: r)) (gap last [])
def pool (es : List (Nat × CpInfo)) (last : Nat) : Array CpInfo := ⟨poolList es last⟩
def fileOf (pool : Array CpInfo) (this : Nat) (attrs : Array Attribute := #[]) (ms : Array MethodInfo := #[]) (fl : Nat := 33) (sup : Nat := 0) (ifs : Array Nat := #[]) (fds : Array FieldInfo := #[]) : ClassFile where
  minorVersion := 0
  majorVersion := 65
  constantPool := pool
  accessFlags := fl
  thisClass := this
  superClass := sup
  interfaces := ifs
  fields := fds
  methods := ms
  attributes := attrs
def plain (name : String) (sup : Option ClassId) : Class where
  name := name
  kind := .ordinary
  loader := none
  accessFlags := 33
  super := sup
  interfaces := #[]
  cf := none
  fields := #[]
  methods := #[]
  instanceTypes := #[]
  staticTypes := #[]
  resolved := #[]
  callSites := []
  init := .initialized
  statics := none
  mirror := none

def pool0 : Array CpInfo := pool [(5, u "<init>"), (0, u "()V"), (1, .class_ 10), (1, u "java/lang/Object")] 113

def k0c0 : Code := { maxStack := 0, maxLocals := 1, code := object_method_1_code, exceptionTable := #[], attributes := #[] }
def k0m0 : Method := { name := "<init>", desc := "()V", sig := { parameters := [], returnType := none }, accessFlags := 1, code := some k0c0 }
/-- java/lang/Object -/
def k0 : Class := { plain "java/lang/Object" none with
  accessFlags := 33
  interfaces := #[]
  cf := some (fileOf pool0 8 #[] #[{ accessFlags := 1, nameIndex := 5, descriptorIndex := 6, attributes := #[] }] 33 0 #[] #[])
  fields := #[]
  methods := #[k0m0]
  instanceTypes := #[]
  staticTypes := #[]
  resolved := Array.replicate 124 none
  statics := none }

def pool1 : Array CpInfo := pool [(2, .class_ 4), (0, .nameAndType 5 6), (0, u "java/lang/Object"), (0, u "<init>"), (0, u "()V"), (0, .methodref 8 9), (0, .class_ 10), (0, .nameAndType 11 6), (0, u "com/example/ballast/ballast/runtime/Outbox"), (0, u "holdUntilReleased"), (0, .methodref 8 13), (0, .nameAndType 14 15), (0, u "release"), (0, u "()Ljava/util/List;"), (0, .methodref 8 17), (0, .nameAndType 18 19), (0, u "sent"), (0, u "(J)V"), (0, .methodref 8 21), (0, .nameAndType 22 23), (0, u "deferMove"), (0, u "(I)V"), (0, .methodref 8 25), (0, .nameAndType 26 27), (0, u "takeDeferredMove"), (0, u "()I"), (0, .methodref 8 29), (0, .nameAndType 30 31), (0, u "awaitFlush"), (0, u "()Z"), (0, .methodref 8 33), (0, .nameAndType 34 6), (0, u "flushed"), (0, .methodref 8 36), (0, .nameAndType 37 38), (0, u "hold"), (0, u "(Lcom/example/ballast/ballast/runtime/ActorId;Ljava/util/function/IntConsumer;)V"), (0, .methodref 8 3), (0, .methodref 8 41), (0, .nameAndType 42 31), (0, u "isHolding"), (0, .methodref 44 45), (0, .class_ 46), (0, .nameAndType 47 48), (0, u "com/example/ballast/ballast/runtime/OutboxIsHoldingPinLaw"), (0, u "apply"), (0, u "(Lcom/example/ballast/ballast/runtime/Outbox;ZIJ)Z"), (3, u "law"), (0, u "(IIIJ)Z")] 2

def k1m0 : Method := { name := "<init>", desc := "()V", sig := { parameters := [], returnType := none }, accessFlags := 1, code := none }
def k1c1 : Code := { maxStack := 3, maxLocals := 6, code := method_2_code, exceptionTable := #[], attributes := #[] }
def k1m1 : Method := { name := "apply", desc := "(Lcom/example/ballast/ballast/runtime/Outbox;ZIJ)Z", sig := { parameters := [(.object "com/example/ballast/ballast/runtime/Outbox"), .boolean, .int, .long], returnType := some .boolean }, accessFlags := 10, code := some k1c1 }
def k1c2 : Code := { maxStack := 5, maxLocals := 10, code := code, exceptionTable := #[], attributes := #[] }
def k1m2 : Method := { name := "law", desc := "(IIIJ)Z", sig := { parameters := [.int, .int, .int, .long], returnType := some .boolean }, accessFlags := 9, code := some k1c2 }
/-- com/example/ballast/ballast/runtime/OutboxIsHoldingPinLaw -/
def k1 : Class := { plain "com/example/ballast/ballast/runtime/OutboxIsHoldingPinLaw" (some 0) with
  accessFlags := 49
  interfaces := #[]
  cf := some (fileOf pool1 44 #[] #[{ accessFlags := 1, nameIndex := 5, descriptorIndex := 6, attributes := #[] }, { accessFlags := 10, nameIndex := 47, descriptorIndex := 48, attributes := #[] }, { accessFlags := 9, nameIndex := 52, descriptorIndex := 53, attributes := #[] }] 49 2 #[] #[])
  fields := #[]
  methods := #[k1m0, k1m1, k1m2]
  instanceTypes := #[]
  staticTypes := #[]
  resolved := Array.replicate 56 none
  statics := none }

def pool2 : Array CpInfo := pool [(1, .methodref 2 3), (0, .class_ 4), (0, .nameAndType 5 6), (0, u "java/lang/Object"), (0, u "<init>"), (0, u "()V"), (0, .long 18446744073709551615), (1, .fieldref 10 11), (0, .class_ 12), (0, .nameAndType 13 14), (0, u "com/example/ballast/ballast/runtime/Outbox"), (0, u "lastSent"), (0, u "J"), (0, .fieldref 10 16), (0, .nameAndType 17 18), (0, u "deferredMove"), (0, u "I"), (0, .fieldref 10 20), (0, .nameAndType 21 22), (0, u "awaitingFlush"), (0, u "Z"), (0, .class_ 24), (0, u "java/util/ArrayList"), (0, .methodref 23 3), (0, .fieldref 10 27), (0, .nameAndType 28 29), (0, u "held"), (0, u "Ljava/util/List;"), (0, .class_ 31), (0, u "com/example/ballast/ballast/runtime/Outbox$Held"), (0, .methodref 30 33), (0, .nameAndType 5 34), (0, u "(Lcom/example/ballast/ballast/runtime/ActorId;Ljava/util/function/IntConsumer;)V"), (0, .interfaceMethodref 36 37), (0, .class_ 38), (0, .nameAndType 39 40), (0, u "java/util/List"), (0, u "add"), (0, u "(Ljava/lang/Object;)Z"), (4, u "sent"), (0, u "(J)V"), (1, u "awaitFlush"), (0, u "()Z"), (1, u "flushed"), (0, u "holdUntilReleased"), (0, u "isHolding"), (0, u "hold"), (0, u "release"), (0, u "()Ljava/util/List;"), (1, u "deferMove"), (0, u "(I)V"), (0, u "takeDeferredMove"), (0, u "()I")] 5

def k2c0 : Code := { maxStack := 3, maxLocals := 1, code := prog_120_method_1_code, exceptionTable := #[], attributes := #[] }
def k2m0 : Method := { name := "<init>", desc := "()V", sig := { parameters := [], returnType := none }, accessFlags := 0, code := some k2c0 }
def k2c1 : Code := { maxStack := 3, maxLocals := 3, code := prog_120_method_2_code, exceptionTable := #[], attributes := #[] }
def k2m1 : Method := { name := "sent", desc := "(J)V", sig := { parameters := [.long], returnType := none }, accessFlags := 0, code := some k2c1 }
def k2c2 : Code := { maxStack := 2, maxLocals := 1, code := prog_120_method_4_code, exceptionTable := #[], attributes := #[] }
def k2m2 : Method := { name := "awaitFlush", desc := "()Z", sig := { parameters := [], returnType := some .boolean }, accessFlags := 0, code := some k2c2 }
def k2c3 : Code := { maxStack := 2, maxLocals := 1, code := prog_120_method_5_code, exceptionTable := #[], attributes := #[] }
def k2m3 : Method := { name := "flushed", desc := "()V", sig := { parameters := [], returnType := none }, accessFlags := 0, code := some k2c3 }
def k2c4 : Code := { maxStack := 3, maxLocals := 1, code := prog_120_method_6_code, exceptionTable := #[], attributes := #[] }
def k2m4 : Method := { name := "holdUntilReleased", desc := "()V", sig := { parameters := [], returnType := none }, accessFlags := 0, code := some k2c4 }
def k2c5 : Code := { maxStack := 1, maxLocals := 1, code := prog_120_method_7_code, exceptionTable := #[], attributes := #[] }
def k2m5 : Method := { name := "isHolding", desc := "()Z", sig := { parameters := [], returnType := some .boolean }, accessFlags := 0, code := some k2c5 }
def k2c6 : Code := { maxStack := 5, maxLocals := 3, code := prog_120_method_8_code, exceptionTable := #[], attributes := #[] }
def k2m6 : Method := { name := "hold", desc := "(Lcom/example/ballast/ballast/runtime/ActorId;Ljava/util/function/IntConsumer;)V", sig := { parameters := [(.object "com/example/ballast/ballast/runtime/ActorId"), (.object "java/util/function/IntConsumer")], returnType := none }, accessFlags := 0, code := some k2c6 }
def k2c7 : Code := { maxStack := 2, maxLocals := 2, code := prog_120_method_9_code, exceptionTable := #[], attributes := #[] }
def k2m7 : Method := { name := "release", desc := "()Ljava/util/List;", sig := { parameters := [], returnType := some (.object "java/util/List") }, accessFlags := 0, code := some k2c7 }
def k2c8 : Code := { maxStack := 2, maxLocals := 2, code := prog_120_method_10_code, exceptionTable := #[], attributes := #[] }
def k2m8 : Method := { name := "deferMove", desc := "(I)V", sig := { parameters := [.int], returnType := none }, accessFlags := 0, code := some k2c8 }
def k2c9 : Code := { maxStack := 2, maxLocals := 2, code := prog_120_method_11_code, exceptionTable := #[], attributes := #[] }
def k2m9 : Method := { name := "takeDeferredMove", desc := "()I", sig := { parameters := [], returnType := some .int }, accessFlags := 0, code := some k2c9 }
/-- com/example/ballast/ballast/runtime/Outbox -/
def k2 : Class := { plain "com/example/ballast/ballast/runtime/Outbox" (some 0) with
  accessFlags := 48
  interfaces := #[]
  cf := some (fileOf pool2 10 #[.nestMembers #[30]] #[{ accessFlags := 0, nameIndex := 5, descriptorIndex := 6, attributes := #[] }, { accessFlags := 0, nameIndex := 45, descriptorIndex := 46, attributes := #[] }, { accessFlags := 0, nameIndex := 48, descriptorIndex := 49, attributes := #[] }, { accessFlags := 0, nameIndex := 51, descriptorIndex := 6, attributes := #[] }, { accessFlags := 0, nameIndex := 52, descriptorIndex := 6, attributes := #[] }, { accessFlags := 0, nameIndex := 53, descriptorIndex := 49, attributes := #[] }, { accessFlags := 0, nameIndex := 54, descriptorIndex := 34, attributes := #[] }, { accessFlags := 0, nameIndex := 55, descriptorIndex := 56, attributes := #[] }, { accessFlags := 0, nameIndex := 58, descriptorIndex := 59, attributes := #[] }, { accessFlags := 0, nameIndex := 60, descriptorIndex := 61, attributes := #[] }] 48 2 #[] #[{ accessFlags := 2, nameIndex := 13, descriptorIndex := 14, attributes := #[] }, { accessFlags := 2, nameIndex := 21, descriptorIndex := 22, attributes := #[] }, { accessFlags := 2, nameIndex := 28, descriptorIndex := 29, attributes := #[] }, { accessFlags := 2, nameIndex := 17, descriptorIndex := 18, attributes := #[] }])
  fields := #[{ name := "lastSent", type := .long, accessFlags := 2, slot := 0, constantValue := 0 }, { name := "awaitingFlush", type := .boolean, accessFlags := 2, slot := 1, constantValue := 0 }, { name := "held", type := (.object "java/util/List"), accessFlags := 2, slot := 2, constantValue := 0 }, { name := "deferredMove", type := .int, accessFlags := 2, slot := 3, constantValue := 0 }]
  methods := #[k2m0, k2m1, k2m2, k2m3, k2m4, k2m5, k2m6, k2m7, k2m8, k2m9]
  instanceTypes := #[.long, .boolean, (.object "java/util/List"), .int]
  staticTypes := #[]
  resolved := Array.replicate 67 none
  statics := none }

def pool3 : Array CpInfo := pool [(8, .class_ 10), (1, u "java/lang/Iterable"), (24, .class_ 36), (0, u "java/lang/Object")] 25

/-- java/lang/Iterable -/
def k3 : Class := { plain "java/lang/Iterable" (some 0) with
  accessFlags := 1537
  interfaces := #[]
  cf := some (fileOf pool3 8 #[] #[] 1537 35 #[] #[])
  fields := #[]
  methods := #[]
  instanceTypes := #[]
  staticTypes := #[]
  resolved := Array.replicate 62 none
  statics := none }

def pool4 : Array CpInfo := pool [(10, .class_ 12), (1, u "java/util/Collection"), (47, .class_ 61), (0, u "java/lang/Object"), (0, .class_ 63), (0, u "java/lang/Iterable")] 51

/-- java/util/Collection -/
def k4 : Class := { plain "java/util/Collection" (some 0) with
  accessFlags := 1537
  interfaces := #[3]
  cf := some (fileOf pool4 10 #[] #[] 1537 60 #[62] #[])
  fields := #[]
  methods := #[]
  instanceTypes := #[]
  staticTypes := #[]
  resolved := Array.replicate 115 none
  statics := none }

def pool5 : Array CpInfo := pool [(1, .methodref 2 3), (0, .class_ 4), (0, .nameAndType 5 6), (0, u "java/lang/Object"), (0, u "<init>"), (0, u "()V"), (1, .class_ 10), (1, u "java/util/AbstractCollection"), (66, .class_ 78), (0, u "java/util/Collection")] 81

def k5c0 : Code := { maxStack := 1, maxLocals := 1, code := jdk_22_method_1_code, exceptionTable := #[], attributes := #[] }
def k5m0 : Method := { name := "<init>", desc := "()V", sig := { parameters := [], returnType := none }, accessFlags := 4, code := some k5c0 }
/-- java/util/AbstractCollection -/
def k5 : Class := { plain "java/util/AbstractCollection" (some 0) with
  accessFlags := 1057
  interfaces := #[4]
  cf := some (fileOf pool5 8 #[] #[{ accessFlags := 4, nameIndex := 5, descriptorIndex := 6, attributes := #[] }] 1057 2 #[77] #[])
  fields := #[]
  methods := #[k5m0]
  instanceTypes := #[]
  staticTypes := #[]
  resolved := Array.replicate 160 none
  statics := none }

def pool6 : Array CpInfo := pool [(8, .class_ 10), (1, u "java/util/SequencedCollection"), (15, .class_ 27), (0, u "java/lang/Object"), (0, .class_ 29), (0, u "java/util/Collection")] 27

/-- java/util/SequencedCollection -/
def k6 : Class := { plain "java/util/SequencedCollection" (some 0) with
  accessFlags := 1537
  interfaces := #[4]
  cf := some (fileOf pool6 8 #[] #[] 1537 26 #[28] #[])
  fields := #[]
  methods := #[]
  instanceTypes := #[]
  staticTypes := #[]
  resolved := Array.replicate 57 none
  statics := none }

def pool7 : Array CpInfo := pool [(8, .class_ 10), (1, u "java/util/List"), (49, u "add"), (3, u "(Ljava/lang/Object;)Z"), (38, .class_ 104), (0, u "java/lang/Object"), (15, .class_ 121), (0, u "java/util/SequencedCollection")] 129

def k7m0 : Method := { name := "add", desc := "(Ljava/lang/Object;)Z", sig := { parameters := [(.object "java/lang/Object")], returnType := some .boolean }, accessFlags := 1025, code := none }
/-- java/util/List -/
def k7 : Class := { plain "java/util/List" (some 0) with
  accessFlags := 1537
  interfaces := #[6]
  cf := some (fileOf pool7 8 #[] #[{ accessFlags := 1025, nameIndex := 60, descriptorIndex := 64, attributes := #[] }] 1537 103 #[120] #[])
  fields := #[]
  methods := #[k7m0]
  instanceTypes := #[]
  staticTypes := #[]
  resolved := Array.replicate 251 none
  statics := none }

def pool8 : Array CpInfo := pool [(1, .methodref 2 3), (0, .class_ 4), (0, .nameAndType 5 6), (0, u "java/util/AbstractCollection"), (0, u "<init>"), (0, u "()V"), (0, .fieldref 8 9), (0, .class_ 10), (0, .nameAndType 11 12), (0, u "java/util/AbstractList"), (0, u "modCount"), (0, u "I"), (64, .class_ 78), (0, u "java/util/AbstractList$Itr"), (3, .class_ 83), (0, u "java/util/AbstractList$ListItr"), (9, .class_ 94), (0, u "java/util/AbstractList$RandomAccessSubList"), (3, .class_ 99), (0, u "java/util/AbstractList$SubList"), (33, .class_ 134), (0, u "java/util/List"), (73, .class_ 209), (0, u "java/util/AbstractList$SubList$1"), (0, .class_ 211), (0, u "java/util/AbstractList$RandomAccessSpliterator")] 6

def k8c0 : Code := { maxStack := 2, maxLocals := 1, code := jdk_39_method_1_code, exceptionTable := #[], attributes := #[] }
def k8m0 : Method := { name := "<init>", desc := "()V", sig := { parameters := [], returnType := none }, accessFlags := 4, code := some k8c0 }
/-- java/util/AbstractList -/
def k8 : Class := { plain "java/util/AbstractList" (some 5) with
  accessFlags := 1057
  interfaces := #[7]
  cf := some (fileOf pool8 8 #[.nestMembers #[93, 98, 208, 210, 82, 77]] #[{ accessFlags := 4, nameIndex := 5, descriptorIndex := 6, attributes := #[] }] 1057 2 #[133] #[{ accessFlags := 132, nameIndex := 11, descriptorIndex := 12, attributes := #[] }])
  fields := #[{ name := "modCount", type := .int, accessFlags := 132, slot := 0, constantValue := 0 }]
  methods := #[k8m0]
  instanceTypes := #[.int]
  staticTypes := #[]
  resolved := Array.replicate 218 none
  statics := none }

def pool9 : Array CpInfo := pool [(1, .class_ 2), (0, u "java/util/RandomAccess"), (0, .class_ 4), (0, u "java/lang/Object")] 2

/-- java/util/RandomAccess -/
def k9 : Class := { plain "java/util/RandomAccess" (some 0) with
  accessFlags := 1537
  interfaces := #[]
  cf := some (fileOf pool9 1 #[] #[] 1537 3 #[] #[])
  fields := #[]
  methods := #[]
  instanceTypes := #[]
  staticTypes := #[]
  resolved := Array.replicate 7 none
  statics := none }

def pool10 : Array CpInfo := pool [(1, .class_ 2), (0, u "java/lang/Cloneable"), (0, .class_ 4), (0, u "java/lang/Object")] 2

/-- java/lang/Cloneable -/
def k10 : Class := { plain "java/lang/Cloneable" (some 0) with
  accessFlags := 1537
  interfaces := #[]
  cf := some (fileOf pool10 1 #[] #[] 1537 3 #[] #[])
  fields := #[]
  methods := #[]
  instanceTypes := #[]
  staticTypes := #[]
  resolved := Array.replicate 7 none
  statics := none }

def pool11 : Array CpInfo := pool [(1, .class_ 2), (0, u "java/io/Serializable"), (0, .class_ 4), (0, u "java/lang/Object")] 2

/-- java/io/Serializable -/
def k11 : Class := { plain "java/io/Serializable" (some 0) with
  accessFlags := 1537
  interfaces := #[]
  cf := some (fileOf pool11 1 #[] #[] 1537 3 #[] #[])
  fields := #[]
  methods := #[]
  instanceTypes := #[]
  staticTypes := #[]
  resolved := Array.replicate 7 none
  statics := none }

def pool12 : Array CpInfo := pool [(1, .methodref 2 3), (0, .class_ 4), (0, .nameAndType 5 6), (0, u "java/util/AbstractList"), (0, u "<init>"), (0, u "()V"), (0, .class_ 8), (0, u "java/lang/Object"), (0, .fieldref 10 11), (0, .class_ 12), (0, .nameAndType 13 14), (0, u "java/util/ArrayList"), (0, u "elementData"), (0, u "[Ljava/lang/Object;"), (2, u "EMPTY_ELEMENTDATA"), (21, .fieldref 10 40), (0, .nameAndType 41 14), (0, u "DEFAULTCAPACITY_EMPTY_ELEMENTDATA"), (5, u "()[Ljava/lang/Object;"), (0, .fieldref 10 49), (0, .nameAndType 50 51), (0, u "size"), (0, u "I"), (11, .fieldref 10 64), (0, .nameAndType 65 51), (0, u "modCount"), (3, .methodref 10 70), (0, .nameAndType 71 72), (0, u "grow"), (0, u "(I)[Ljava/lang/Object;"), (6, .methodref 80 81), (0, .class_ 82), (0, .nameAndType 83 84), (0, u "java/lang/Math"), (0, u "max"), (0, u "(II)I"), (11, u "(Ljava/lang/Object;)Z"), (32, .methodref 10 130), (0, .nameAndType 71 47), (0, .methodref 10 132), (0, .nameAndType 133 134), (0, u "add"), (0, u "(Ljava/lang/Object;[Ljava/lang/Object;I)V"), (13, .class_ 149), (0, u "java/util/List"), (112, .class_ 263), (0, u "java/util/ArrayList$ListItr"), (3, .class_ 268), (0, u "java/util/ArrayList$Itr"), (7, .class_ 277), (0, u "java/util/ArrayList$SubList"), (12, .class_ 291), (0, u "java/util/ArrayList$ArrayListSpliterator"), (37, .class_ 330), (0, u "java/util/RandomAccess"), (0, .class_ 332), (0, u "java/lang/Cloneable"), (0, .class_ 334), (0, u "java/io/Serializable"), (0, u "serialVersionUID"), (0, u "J"), (3, u "DEFAULT_CAPACITY"), (159, .class_ 501), (0, u "java/util/ArrayList$SubList$2"), (0, .class_ 503), (0, u "java/util/ArrayList$SubList$1")] 5

def k12c0 : Code := { maxStack := 2, maxLocals := 1, code := jdk_38_method_2_code, exceptionTable := #[], attributes := #[] }
def k12m0 : Method := { name := "<init>", desc := "()V", sig := { parameters := [], returnType := none }, accessFlags := 1, code := some k12c0 }
def k12c1 : Code := { maxStack := 4, maxLocals := 4, code := jdk_38_method_6_code, exceptionTable := #[], attributes := #[] }
def k12m1 : Method := { name := "grow", desc := "(I)[Ljava/lang/Object;", sig := { parameters := [.int], returnType := some (.array (.object "java/lang/Object")) }, accessFlags := 2, code := some k12c1 }
def k12c2 : Code := { maxStack := 3, maxLocals := 1, code := jdk_38_method_7_code, exceptionTable := #[], attributes := #[] }
def k12m2 : Method := { name := "grow", desc := "()[Ljava/lang/Object;", sig := { parameters := [], returnType := some (.array (.object "java/lang/Object")) }, accessFlags := 2, code := some k12c2 }
def k12c3 : Code := { maxStack := 3, maxLocals := 4, code := jdk_38_method_24_code, exceptionTable := #[], attributes := #[] }
def k12m3 : Method := { name := "add", desc := "(Ljava/lang/Object;[Ljava/lang/Object;I)V", sig := { parameters := [(.object "java/lang/Object"), (.array (.object "java/lang/Object")), .int], returnType := none }, accessFlags := 2, code := some k12c3 }
def k12c4 : Code := { maxStack := 4, maxLocals := 2, code := jdk_38_method_25_code, exceptionTable := #[], attributes := #[] }
def k12m4 : Method := { name := "add", desc := "(Ljava/lang/Object;)Z", sig := { parameters := [(.object "java/lang/Object")], returnType := some .boolean }, accessFlags := 1, code := some k12c4 }
/-- java/util/ArrayList -/
def k12 : Class := { plain "java/util/ArrayList" (some 8) with
  accessFlags := 33
  interfaces := #[7, 9, 10, 11]
  cf := some (fileOf pool12 10 #[.nestMembers #[290, 276, 500, 502, 262, 267]] #[{ accessFlags := 1, nameIndex := 5, descriptorIndex := 6, attributes := #[] }, { accessFlags := 2, nameIndex := 71, descriptorIndex := 72, attributes := #[] }, { accessFlags := 2, nameIndex := 71, descriptorIndex := 47, attributes := #[] }, { accessFlags := 2, nameIndex := 133, descriptorIndex := 134, attributes := #[] }, { accessFlags := 1, nameIndex := 133, descriptorIndex := 96, attributes := #[] }] 33 2 #[148, 329, 331, 333] #[{ accessFlags := 26, nameIndex := 335, descriptorIndex := 336, attributes := #[] }, { accessFlags := 26, nameIndex := 340, descriptorIndex := 51, attributes := #[] }, { accessFlags := 26, nameIndex := 17, descriptorIndex := 14, attributes := #[] }, { accessFlags := 26, nameIndex := 41, descriptorIndex := 14, attributes := #[] }, { accessFlags := 128, nameIndex := 13, descriptorIndex := 14, attributes := #[] }, { accessFlags := 2, nameIndex := 50, descriptorIndex := 51, attributes := #[] }])
  fields := #[{ name := "serialVersionUID", type := .long, accessFlags := 26, slot := 0, constantValue := 0 }, { name := "DEFAULT_CAPACITY", type := .int, accessFlags := 26, slot := 1, constantValue := 0 }, { name := "EMPTY_ELEMENTDATA", type := (.array (.object "java/lang/Object")), accessFlags := 26, slot := 2, constantValue := 0 }, { name := "DEFAULTCAPACITY_EMPTY_ELEMENTDATA", type := (.array (.object "java/lang/Object")), accessFlags := 26, slot := 3, constantValue := 0 }, { name := "elementData", type := (.array (.object "java/lang/Object")), accessFlags := 128, slot := 1, constantValue := 0 }, { name := "size", type := .int, accessFlags := 2, slot := 2, constantValue := 0 }]
  methods := #[k12m0, k12m1, k12m2, k12m3, k12m4]
  instanceTypes := #[.int, (.array (.object "java/lang/Object")), .int]
  staticTypes := #[.long, .int, (.array (.object "java/lang/Object")), (.array (.object "java/lang/Object"))]
  resolved := Array.replicate 509 none
  statics := some 0 }

def pool13 : Array CpInfo := pool [(1, .methodref 2 3), (0, .class_ 4), (0, .nameAndType 5 6), (0, u "java/lang/Object"), (0, u "<init>"), (0, u "()V"), (0, .class_ 8), (0, u "java/lang/Record")] 13

def k13c0 : Code := { maxStack := 1, maxLocals := 1, code := jdk_30_method_1_code, exceptionTable := #[], attributes := #[] }
def k13m0 : Method := { name := "<init>", desc := "()V", sig := { parameters := [], returnType := none }, accessFlags := 4, code := some k13c0 }
/-- java/lang/Record -/
def k13 : Class := { plain "java/lang/Record" (some 0) with
  accessFlags := 1057
  interfaces := #[]
  cf := some (fileOf pool13 7 #[] #[{ accessFlags := 4, nameIndex := 5, descriptorIndex := 6, attributes := #[] }] 1057 2 #[] #[])
  fields := #[]
  methods := #[k13m0]
  instanceTypes := #[]
  staticTypes := #[]
  resolved := Array.replicate 22 none
  statics := none }

def pool14 : Array CpInfo := pool [(1, .methodref 2 3), (0, .class_ 4), (0, .nameAndType 5 6), (0, u "java/lang/Record"), (0, u "<init>"), (0, u "()V"), (0, .fieldref 8 9), (0, .class_ 10), (0, .nameAndType 11 12), (0, u "com/example/ballast/ballast/runtime/Outbox$Held"), (0, u "receiver"), (0, u "Lcom/example/ballast/ballast/runtime/ActorId;"), (0, .fieldref 8 14), (0, .nameAndType 15 16), (0, u "send"), (0, u "Ljava/util/function/IntConsumer;"), (12, u "(Lcom/example/ballast/ballast/runtime/ActorId;Ljava/util/function/IntConsumer;)V"), (11, .class_ 42), (0, u "com/example/ballast/ballast/runtime/Outbox")] 20

def k14c0 : Code := { maxStack := 2, maxLocals := 3, code := prog_121_method_1_code, exceptionTable := #[], attributes := #[] }
def k14m0 : Method := { name := "<init>", desc := "(Lcom/example/ballast/ballast/runtime/ActorId;Ljava/util/function/IntConsumer;)V", sig := { parameters := [(.object "com/example/ballast/ballast/runtime/ActorId"), (.object "java/util/function/IntConsumer")], returnType := none }, accessFlags := 0, code := some k14c0 }
/-- com/example/ballast/ballast/runtime/Outbox$Held -/
def k14 : Class := { plain "com/example/ballast/ballast/runtime/Outbox$Held" (some 13) with
  accessFlags := 48
  interfaces := #[]
  cf := some (fileOf pool14 8 #[.nestHost 41] #[{ accessFlags := 0, nameIndex := 5, descriptorIndex := 29, attributes := #[] }] 48 2 #[] #[{ accessFlags := 18, nameIndex := 11, descriptorIndex := 12, attributes := #[] }, { accessFlags := 18, nameIndex := 15, descriptorIndex := 16, attributes := #[] }])
  fields := #[{ name := "receiver", type := (.object "com/example/ballast/ballast/runtime/ActorId"), accessFlags := 18, slot := 0, constantValue := 0 }, { name := "send", type := (.object "java/util/function/IntConsumer"), accessFlags := 18, slot := 1, constantValue := 0 }]
  methods := #[k14m0]
  instanceTypes := #[(.object "com/example/ballast/ballast/runtime/ActorId"), (.object "java/util/function/IntConsumer")]
  staticTypes := #[]
  resolved := Array.replicate 63 none
  statics := none }

def pool15 : Array CpInfo := pool [(1, .class_ 2), (0, u "java/lang/Math"), (1, .class_ 6), (1, u "java/lang/Object"), (0, u "<init>"), (0, u "()V"), (89, .class_ 100), (1, u "java/lang/Math$RandomNumberGeneratorHolder"), (71, u "negativeZeroFloatBits"), (0, u "J"), (2, u "negativeZeroDoubleBits"), (21, u "max"), (46, u "$assertionsDisabled"), (0, u "Z"), (88, u "(II)I"), (2, u "twoToTheDoubleScaleDown"), (0, u "D"), (4, u "twoToTheDoubleScaleUp"), (9, u "E"), (3, u "PI"), (2, u "TAU"), (2, u "DEGREES_TO_RADIANS"), (0, u "RADIANS_TO_DEGREES")] 94

def k15m0 : Method := { name := "<init>", desc := "()V", sig := { parameters := [], returnType := none }, accessFlags := 2, code := none }
def k15c1 : Code := { maxStack := 2, maxLocals := 2, code := jdk_29_method_65_code, exceptionTable := #[], attributes := #[] }
def k15m1 : Method := { name := "max", desc := "(II)I", sig := { parameters := [.int, .int], returnType := some .int }, accessFlags := 9, code := some k15c1 }
/-- java/lang/Math -/
def k15 : Class := { plain "java/lang/Math" (some 0) with
  accessFlags := 49
  interfaces := #[]
  cf := some (fileOf pool15 1 #[.nestMembers #[98]] #[{ accessFlags := 2, nameIndex := 7, descriptorIndex := 8, attributes := #[] }, { accessFlags := 9, nameIndex := 198, descriptorIndex := 335, attributes := #[] }] 49 4 #[] #[{ accessFlags := 25, nameIndex := 354, descriptorIndex := 339, attributes := #[] }, { accessFlags := 25, nameIndex := 358, descriptorIndex := 339, attributes := #[] }, { accessFlags := 25, nameIndex := 361, descriptorIndex := 339, attributes := #[] }, { accessFlags := 26, nameIndex := 364, descriptorIndex := 339, attributes := #[] }, { accessFlags := 26, nameIndex := 365, descriptorIndex := 339, attributes := #[] }, { accessFlags := 26, nameIndex := 172, descriptorIndex := 173, attributes := #[] }, { accessFlags := 26, nameIndex := 176, descriptorIndex := 173, attributes := #[] }, { accessFlags := 8, nameIndex := 344, descriptorIndex := 339, attributes := #[] }, { accessFlags := 8, nameIndex := 338, descriptorIndex := 339, attributes := #[] }, { accessFlags := 4120, nameIndex := 245, descriptorIndex := 246, attributes := #[] }])
  fields := #[{ name := "E", type := .double, accessFlags := 25, slot := 0, constantValue := 0 }, { name := "PI", type := .double, accessFlags := 25, slot := 1, constantValue := 0 }, { name := "TAU", type := .double, accessFlags := 25, slot := 2, constantValue := 0 }, { name := "DEGREES_TO_RADIANS", type := .double, accessFlags := 26, slot := 3, constantValue := 0 }, { name := "RADIANS_TO_DEGREES", type := .double, accessFlags := 26, slot := 4, constantValue := 0 }, { name := "negativeZeroFloatBits", type := .long, accessFlags := 26, slot := 5, constantValue := 0 }, { name := "negativeZeroDoubleBits", type := .long, accessFlags := 26, slot := 6, constantValue := 0 }, { name := "twoToTheDoubleScaleUp", type := .double, accessFlags := 8, slot := 7, constantValue := 0 }, { name := "twoToTheDoubleScaleDown", type := .double, accessFlags := 8, slot := 8, constantValue := 0 }, { name := "$assertionsDisabled", type := .boolean, accessFlags := 4120, slot := 9, constantValue := 0 }]
  methods := #[k15m0, k15m1]
  instanceTypes := #[]
  staticTypes := #[.double, .double, .double, .double, .double, .long, .long, .double, .double, .boolean]
  resolved := Array.replicate 460 none
  statics := none }

/-- the primitive byte -/
def k16 : Class := { plain "byte" none with kind := .primitive 'B', accessFlags := 0x411 }
/-- [B -/
def k17 : Class := { plain "[B" (some 0) with kind := .array 16 .byte, interfaces := #[10, 11], accessFlags := 1041 }

/-- [Ljava/lang/Object; -/
def k18 : Class := { plain "[Ljava/lang/Object;" (some 0) with kind := .array 0 (.object "java/lang/Object"), interfaces := #[10, 11], accessFlags := 1041 }

def heap : Heap := #[{ cls := 12, slots := #[.long 0, .int 0, .ref 1, .ref 2], vm := .statics 12 },
  { cls := 18, slots := #[], vm := .none },
  { cls := 18, slots := #[], vm := .none }]
def classes : Array Class := #[k0, k1, k2, k3, k4, k5, k6, k7, k8, k9, k10, k11, k12, k13, k14, k15, k16, k17, k18]
def interned : List (Array UInt16 × Addr) := []
def slotsUsed : Nat := 4
def theMethod : MethodId := ⟨1, 2⟩
def args0 : Array Value := #[.int 0, .int 7, .int 7, .long 3]
def aboutOver (below : List Frame) : State where
  vm := { classes := classes, interned := interned.toArray }
  heap := heap
  slotsUsed := slotsUsed
  threads := #[{ frames := .invoking theMethod args0 :: below }]
def below0 : List Frame := [.native { method := ⟨0, 0⟩, args := #[] }]
def about1 : State := aboutOver below0
def p0 : Program := .bare "" "" ""
def e0 : Env := launch0.env 0 0 0
theorem w_frames : about1.frames = Frame.invoking theMethod args0 :: below0 := rfl
set_option maxRecDepth 65536 in
theorem w_args : argsFit about1.vm theMethod args0 = true := by decide +kernel
set_option maxRecDepth 65536 in
theorem w_heap : heapFits about1 = true := by decide +kernel
set_option maxRecDepth 65536 in
theorem w_runnable : about1.curStatus? = some .runnable := by decide +kernel
set_option maxRecDepth 65536 in
theorem w_alone : about1.alone = true := by decide +kernel
set_option maxRecDepth 65536 in
theorem w_named : about1.methodNamed? x = some theMethod := by decide +kernel
set_option maxRecDepth 65536 in
theorem w_hears : about1.hears theMethod below0 = true := by decide +kernel
set_option maxRecDepth 65536 in
theorem w_ripe : about1.ripe theMethod args0 below0 = true := by decide +kernel
theorem w_running : about1.status = .running := rfl
set_option maxRecDepth 65536 in
theorem w_room : about1.hasRoom e0.platform room_1 = true :=
  launch0.hasRoom_least _ room_1 (by decide +kernel) (by decide +kernel) (by decide +kernel) (by decide +kernel) (by decide +kernel) (by decide +kernel)
theorem allAtoms_all (ts : List Jvm.Cond) (a : Array Jvm.Value) (st : Jvm.State) : (allAtoms ts).before a st = ts.all (fun c => c.before a st) := by
  induction ts with
  | nil => rfl
  | cons c t ih =>
    show (Jvm.Cond.and c (allAtoms t)).before a st = _
    rw [Jvm.Cond.before_and, ih, List.all_cons]
def words1 : List Jvm.Cond := Jvm.Cond.code x code maxLocals ret :: tables_1
/-- a 'code' word, met by the world's own term for the bytes: nothing is compared byte by byte -/
theorem code_word {y : MethodName} {bytes : ByteArray} {mx : Nat} {rt : Option FieldType} {a : Array Value} {s : State} {m : MethodId} {meth : Method} {c : Code} (h1 : s.methodNamed? y = some m) (h2 : s.vm.method? m = some meth) (h3 : meth.code = some c) (h4 : c.code = bytes)
    (h5 : (c.maxLocals == mx && c.exceptionTable.isEmpty && decide (c.maxStack ≤ mostOperands) && decide (meth.sig.returnType = rt) && !meth.locks && decide (parseMethodDescriptor y.desc = some meth.sig)) = true) : (Jvm.Cond.code y bytes mx rt).before a s = true := by
  simp only [Bool.and_eq_true, beq_iff_eq, Bool.not_eq_true', decide_eq_true_eq] at h5
  obtain ⟨⟨⟨⟨⟨g1, g2⟩, g3⟩, g4⟩, g5⟩, g6⟩ := h5
  simp [Cond.before, Cond.holds, Cond.value, h1, h2, h3, h4, g1, g2, g3, g4, g5, g6]
def isCode : Jvm.Cond → Bool
  | .code _ _ _ _ => true
  | _ => false
theorem all_split {L : List Jvm.Cond} {P : Jvm.Cond → Bool} (h1 : L.all (fun c => isCode c || P c) = true) (h2 : ∀ c ∈ L.filter isCode, P c = true) : L.all P = true := by
  refine List.all_eq_true.mpr fun c hc => ?_
  have h := List.all_eq_true.mp h1 c hc
  rcases Bool.eq_false_or_eq_true (isCode c) with hi | hi
  · exact h2 c (List.mem_filter.mpr ⟨hc, hi⟩)
  · simpa [hi] using h
set_option maxRecDepth 65536 in
theorem w_c0 : (Jvm.Cond.code x code maxLocals ret).before args0 about1 = true := code_word (m := ⟨1, 2⟩) (meth := k1m2) (c := k1c2) (by decide +kernel) rfl rfl rfl (by decide +kernel)
set_option maxRecDepth 65536 in
theorem w_c1 : (Jvm.Cond.code ({ cls := "com/example/ballast/ballast/runtime/Outbox", name := "<init>", desc := "()V" } : Jvm.MethodName) prog_120_method_1_code (1 : Nat) (Option.none : Option Jvm.ClassFile.FieldType)).before args0 about1 = true := code_word (m := ⟨2, 0⟩) (meth := k2m0) (c := k2c0) (by decide +kernel) rfl rfl rfl (by decide +kernel)
set_option maxRecDepth 65536 in
theorem w_c2 : (Jvm.Cond.code ({ cls := "java/lang/Object", name := "<init>", desc := "()V" } : Jvm.MethodName) object_method_1_code (1 : Nat) (Option.none : Option Jvm.ClassFile.FieldType)).before args0 about1 = true := code_word (m := ⟨0, 0⟩) (meth := k0m0) (c := k0c0) (by decide +kernel) rfl rfl rfl (by decide +kernel)
set_option maxRecDepth 65536 in
theorem w_c3 : (Jvm.Cond.code ({ cls := "com/example/ballast/ballast/runtime/Outbox", name := "isHolding", desc := "()Z" } : Jvm.MethodName) prog_120_method_7_code (1 : Nat) (Option.some Jvm.ClassFile.FieldType.boolean)).before args0 about1 = true := code_word (m := ⟨2, 5⟩) (meth := k2m5) (c := k2c5) (by decide +kernel) rfl rfl rfl (by decide +kernel)
set_option maxRecDepth 65536 in
theorem w_c4 : (Jvm.Cond.code ({ cls := "com/example/ballast/ballast/runtime/OutboxIsHoldingPinLaw", name := "apply", desc := "(Lcom/example/ballast/ballast/runtime/Outbox;ZIJ)Z" } : Jvm.MethodName) method_2_code (6 : Nat) (Option.some Jvm.ClassFile.FieldType.boolean)).before args0 about1 = true := code_word (m := ⟨1, 1⟩) (meth := k1m1) (c := k1c1) (by decide +kernel) rfl rfl rfl (by decide +kernel)
set_option maxRecDepth 65536 in
theorem w_c5 : (Jvm.Cond.code ({ cls := "com/example/ballast/ballast/runtime/Outbox", name := "holdUntilReleased", desc := "()V" } : Jvm.MethodName) prog_120_method_6_code (1 : Nat) (Option.none : Option Jvm.ClassFile.FieldType)).before args0 about1 = true := code_word (m := ⟨2, 4⟩) (meth := k2m4) (c := k2c4) (by decide +kernel) rfl rfl rfl (by decide +kernel)
set_option maxRecDepth 65536 in
theorem w_c6 : (Jvm.Cond.code ({ cls := "java/util/ArrayList", name := "<init>", desc := "()V" } : Jvm.MethodName) jdk_38_method_2_code (1 : Nat) (Option.none : Option Jvm.ClassFile.FieldType)).before args0 about1 = true := code_word (m := ⟨12, 0⟩) (meth := k12m0) (c := k12c0) (by decide +kernel) rfl rfl rfl (by decide +kernel)
set_option maxRecDepth 65536 in
theorem w_c7 : (Jvm.Cond.code ({ cls := "java/util/AbstractList", name := "<init>", desc := "()V" } : Jvm.MethodName) jdk_39_method_1_code (1 : Nat) (Option.none : Option Jvm.ClassFile.FieldType)).before args0 about1 = true := code_word (m := ⟨8, 0⟩) (meth := k8m0) (c := k8c0) (by decide +kernel) rfl rfl rfl (by decide +kernel)
set_option maxRecDepth 65536 in
theorem w_c8 : (Jvm.Cond.code ({ cls := "java/util/AbstractCollection", name := "<init>", desc := "()V" } : Jvm.MethodName) jdk_22_method_1_code (1 : Nat) (Option.none : Option Jvm.ClassFile.FieldType)).before args0 about1 = true := code_word (m := ⟨5, 0⟩) (meth := k5m0) (c := k5c0) (by decide +kernel) rfl rfl rfl (by decide +kernel)
set_option maxRecDepth 65536 in
theorem w_c9 : (Jvm.Cond.code ({ cls := "com/example/ballast/ballast/runtime/Outbox", name := "deferMove", desc := "(I)V" } : Jvm.MethodName) prog_120_method_10_code (2 : Nat) (Option.none : Option Jvm.ClassFile.FieldType)).before args0 about1 = true := code_word (m := ⟨2, 8⟩) (meth := k2m8) (c := k2c8) (by decide +kernel) rfl rfl rfl (by decide +kernel)
set_option maxRecDepth 65536 in
theorem w_c10 : (Jvm.Cond.code ({ cls := "com/example/ballast/ballast/runtime/Outbox", name := "sent", desc := "(J)V" } : Jvm.MethodName) prog_120_method_2_code (3 : Nat) (Option.none : Option Jvm.ClassFile.FieldType)).before args0 about1 = true := code_word (m := ⟨2, 1⟩) (meth := k2m1) (c := k2c1) (by decide +kernel) rfl rfl rfl (by decide +kernel)
set_option maxRecDepth 65536 in
theorem w_c11 : (Jvm.Cond.code ({ cls := "com/example/ballast/ballast/runtime/Outbox", name := "takeDeferredMove", desc := "()I" } : Jvm.MethodName) prog_120_method_11_code (2 : Nat) (Option.some Jvm.ClassFile.FieldType.int)).before args0 about1 = true := code_word (m := ⟨2, 9⟩) (meth := k2m9) (c := k2c9) (by decide +kernel) rfl rfl rfl (by decide +kernel)
set_option maxRecDepth 65536 in
theorem w_c12 : (Jvm.Cond.code ({ cls := "com/example/ballast/ballast/runtime/Outbox", name := "release", desc := "()Ljava/util/List;" } : Jvm.MethodName) prog_120_method_9_code (2 : Nat) (Option.some (Jvm.ClassFile.FieldType.object "java/util/List"))).before args0 about1 = true := code_word (m := ⟨2, 7⟩) (meth := k2m7) (c := k2c7) (by decide +kernel) rfl rfl rfl (by decide +kernel)
set_option maxRecDepth 65536 in
theorem w_c13 : (Jvm.Cond.code ({ cls := "com/example/ballast/ballast/runtime/Outbox", name := "awaitFlush", desc := "()Z" } : Jvm.MethodName) prog_120_method_4_code (1 : Nat) (Option.some Jvm.ClassFile.FieldType.boolean)).before args0 about1 = true := code_word (m := ⟨2, 2⟩) (meth := k2m2) (c := k2c2) (by decide +kernel) rfl rfl rfl (by decide +kernel)
set_option maxRecDepth 65536 in
theorem w_c14 : (Jvm.Cond.code ({ cls := "com/example/ballast/ballast/runtime/Outbox", name := "flushed", desc := "()V" } : Jvm.MethodName) prog_120_method_5_code (1 : Nat) (Option.none : Option Jvm.ClassFile.FieldType)).before args0 about1 = true := code_word (m := ⟨2, 3⟩) (meth := k2m3) (c := k2c3) (by decide +kernel) rfl rfl rfl (by decide +kernel)
set_option maxRecDepth 65536 in
theorem w_c15 : (Jvm.Cond.code ({ cls := "com/example/ballast/ballast/runtime/Outbox", name := "hold", desc := "(Lcom/example/ballast/ballast/runtime/ActorId;Ljava/util/function/IntConsumer;)V" } : Jvm.MethodName) prog_120_method_8_code (3 : Nat) (Option.none : Option Jvm.ClassFile.FieldType)).before args0 about1 = true := code_word (m := ⟨2, 6⟩) (meth := k2m6) (c := k2c6) (by decide +kernel) rfl rfl rfl (by decide +kernel)
set_option maxRecDepth 65536 in
theorem w_c16 : (Jvm.Cond.code ({ cls := "com/example/ballast/ballast/runtime/Outbox$Held", name := "<init>", desc := "(Lcom/example/ballast/ballast/runtime/ActorId;Ljava/util/function/IntConsumer;)V" } : Jvm.MethodName) prog_121_method_1_code (3 : Nat) (Option.none : Option Jvm.ClassFile.FieldType)).before args0 about1 = true := code_word (m := ⟨14, 0⟩) (meth := k14m0) (c := k14c0) (by decide +kernel) rfl rfl rfl (by decide +kernel)
set_option maxRecDepth 65536 in
theorem w_c17 : (Jvm.Cond.code ({ cls := "java/lang/Record", name := "<init>", desc := "()V" } : Jvm.MethodName) jdk_30_method_1_code (1 : Nat) (Option.none : Option Jvm.ClassFile.FieldType)).before args0 about1 = true := code_word (m := ⟨13, 0⟩) (meth := k13m0) (c := k13c0) (by decide +kernel) rfl rfl rfl (by decide +kernel)
set_option maxRecDepth 65536 in
theorem w_c18 : (Jvm.Cond.code ({ cls := "java/util/ArrayList", name := "add", desc := "(Ljava/lang/Object;)Z" } : Jvm.MethodName) jdk_38_method_25_code (2 : Nat) (Option.some Jvm.ClassFile.FieldType.boolean)).before args0 about1 = true := code_word (m := ⟨12, 4⟩) (meth := k12m4) (c := k12c4) (by decide +kernel) rfl rfl rfl (by decide +kernel)
set_option maxRecDepth 65536 in
theorem w_c19 : (Jvm.Cond.code ({ cls := "java/util/ArrayList", name := "add", desc := "(Ljava/lang/Object;[Ljava/lang/Object;I)V" } : Jvm.MethodName) jdk_38_method_24_code (4 : Nat) (Option.none : Option Jvm.ClassFile.FieldType)).before args0 about1 = true := code_word (m := ⟨12, 3⟩) (meth := k12m3) (c := k12c3) (by decide +kernel) rfl rfl rfl (by decide +kernel)
set_option maxRecDepth 65536 in
theorem w_c20 : (Jvm.Cond.code ({ cls := "java/util/ArrayList", name := "grow", desc := "()[Ljava/lang/Object;" } : Jvm.MethodName) jdk_38_method_7_code (1 : Nat) (Option.some (Jvm.ClassFile.FieldType.array (Jvm.ClassFile.FieldType.object "java/lang/Object")))).before args0 about1 = true := code_word (m := ⟨12, 2⟩) (meth := k12m2) (c := k12c2) (by decide +kernel) rfl rfl rfl (by decide +kernel)
set_option maxRecDepth 65536 in
theorem w_c21 : (Jvm.Cond.code ({ cls := "java/util/ArrayList", name := "grow", desc := "(I)[Ljava/lang/Object;" } : Jvm.MethodName) jdk_38_method_6_code (4 : Nat) (Option.some (Jvm.ClassFile.FieldType.array (Jvm.ClassFile.FieldType.object "java/lang/Object")))).before args0 about1 = true := code_word (m := ⟨12, 1⟩) (meth := k12m1) (c := k12c1) (by decide +kernel) rfl rfl rfl (by decide +kernel)
set_option maxRecDepth 65536 in
theorem w_c22 : (Jvm.Cond.code ({ cls := "java/lang/Math", name := "max", desc := "(II)I" } : Jvm.MethodName) jdk_29_method_65_code (2 : Nat) (Option.some Jvm.ClassFile.FieldType.int)).before args0 about1 = true := code_word (m := ⟨15, 1⟩) (meth := k15m1) (c := k15c1) (by decide +kernel) rfl rfl rfl (by decide +kernel)
def codes1 : List Jvm.Cond := [Jvm.Cond.code x code maxLocals ret, Jvm.Cond.code ({ cls := "com/example/ballast/ballast/runtime/Outbox", name := "<init>", desc := "()V" } : Jvm.MethodName) prog_120_method_1_code (1 : Nat) (Option.none : Option Jvm.ClassFile.FieldType), Jvm.Cond.code ({ cls := "java/lang/Object", name := "<init>", desc := "()V" } : Jvm.MethodName) object_method_1_code (1 : Nat) (Option.none : Option Jvm.ClassFile.FieldType), Jvm.Cond.code ({ cls := "com/example/ballast/ballast/runtime/Outbox", name := "isHolding", desc := "()Z" } : Jvm.MethodName) prog_120_method_7_code (1 : Nat) (Option.some Jvm.ClassFile.FieldType.boolean), Jvm.Cond.code ({ cls := "com/example/ballast/ballast/runtime/OutboxIsHoldingPinLaw", name := "apply", desc := "(Lcom/example/ballast/ballast/runtime/Outbox;ZIJ)Z" } : Jvm.MethodName) method_2_code (6 : Nat) (Option.some Jvm.ClassFile.FieldType.boolean), Jvm.Cond.code ({ cls := "com/example/ballast/ballast/runtime/Outbox", name := "holdUntilReleased", desc := "()V" } : Jvm.MethodName) prog_120_method_6_code (1 : Nat) (Option.none : Option Jvm.ClassFile.FieldType), Jvm.Cond.code ({ cls := "java/util/ArrayList", name := "<init>", desc := "()V" } : Jvm.MethodName) jdk_38_method_2_code (1 : Nat) (Option.none : Option Jvm.ClassFile.FieldType), Jvm.Cond.code ({ cls := "java/util/AbstractList", name := "<init>", desc := "()V" } : Jvm.MethodName) jdk_39_method_1_code (1 : Nat) (Option.none : Option Jvm.ClassFile.FieldType), Jvm.Cond.code ({ cls := "java/util/AbstractCollection", name := "<init>", desc := "()V" } : Jvm.MethodName) jdk_22_method_1_code (1 : Nat) (Option.none : Option Jvm.ClassFile.FieldType), Jvm.Cond.code ({ cls := "com/example/ballast/ballast/runtime/Outbox", name := "deferMove", desc := "(I)V" } : Jvm.MethodName) prog_120_method_10_code (2 : Nat) (Option.none : Option Jvm.ClassFile.FieldType), Jvm.Cond.code ({ cls := "com/example/ballast/ballast/runtime/Outbox", name := "sent", desc := "(J)V" } : Jvm.MethodName) prog_120_method_2_code (3 : Nat) (Option.none : Option Jvm.ClassFile.FieldType), Jvm.Cond.code ({ cls := "com/example/ballast/ballast/runtime/Outbox", name := "takeDeferredMove", desc := "()I" } : Jvm.MethodName) prog_120_method_11_code (2 : Nat) (Option.some Jvm.ClassFile.FieldType.int), Jvm.Cond.code ({ cls := "com/example/ballast/ballast/runtime/Outbox", name := "release", desc := "()Ljava/util/List;" } : Jvm.MethodName) prog_120_method_9_code (2 : Nat) (Option.some (Jvm.ClassFile.FieldType.object "java/util/List")), Jvm.Cond.code ({ cls := "com/example/ballast/ballast/runtime/Outbox", name := "awaitFlush", desc := "()Z" } : Jvm.MethodName) prog_120_method_4_code (1 : Nat) (Option.some Jvm.ClassFile.FieldType.boolean), Jvm.Cond.code ({ cls := "com/example/ballast/ballast/runtime/Outbox", name := "flushed", desc := "()V" } : Jvm.MethodName) prog_120_method_5_code (1 : Nat) (Option.none : Option Jvm.ClassFile.FieldType), Jvm.Cond.code ({ cls := "com/example/ballast/ballast/runtime/Outbox", name := "hold", desc := "(Lcom/example/ballast/ballast/runtime/ActorId;Ljava/util/function/IntConsumer;)V" } : Jvm.MethodName) prog_120_method_8_code (3 : Nat) (Option.none : Option Jvm.ClassFile.FieldType), Jvm.Cond.code ({ cls := "com/example/ballast/ballast/runtime/Outbox$Held", name := "<init>", desc := "(Lcom/example/ballast/ballast/runtime/ActorId;Ljava/util/function/IntConsumer;)V" } : Jvm.MethodName) prog_121_method_1_code (3 : Nat) (Option.none : Option Jvm.ClassFile.FieldType), Jvm.Cond.code ({ cls := "java/lang/Record", name := "<init>", desc := "()V" } : Jvm.MethodName) jdk_30_method_1_code (1 : Nat) (Option.none : Option Jvm.ClassFile.FieldType), Jvm.Cond.code ({ cls := "java/util/ArrayList", name := "add", desc := "(Ljava/lang/Object;)Z" } : Jvm.MethodName) jdk_38_method_25_code (2 : Nat) (Option.some Jvm.ClassFile.FieldType.boolean), Jvm.Cond.code ({ cls := "java/util/ArrayList", name := "add", desc := "(Ljava/lang/Object;[Ljava/lang/Object;I)V" } : Jvm.MethodName) jdk_38_method_24_code (4 : Nat) (Option.none : Option Jvm.ClassFile.FieldType), Jvm.Cond.code ({ cls := "java/util/ArrayList", name := "grow", desc := "()[Ljava/lang/Object;" } : Jvm.MethodName) jdk_38_method_7_code (1 : Nat) (Option.some (Jvm.ClassFile.FieldType.array (Jvm.ClassFile.FieldType.object "java/lang/Object"))), Jvm.Cond.code ({ cls := "java/util/ArrayList", name := "grow", desc := "(I)[Ljava/lang/Object;" } : Jvm.MethodName) jdk_38_method_6_code (4 : Nat) (Option.some (Jvm.ClassFile.FieldType.array (Jvm.ClassFile.FieldType.object "java/lang/Object"))), Jvm.Cond.code ({ cls := "java/lang/Math", name := "max", desc := "(II)I" } : Jvm.MethodName) jdk_29_method_65_code (2 : Nat) (Option.some Jvm.ClassFile.FieldType.int)]
set_option maxRecDepth 65536 in
theorem codes_eq : words1.filter isCode = codes1 := rfl
theorem w_codes : ∀ c ∈ words1.filter isCode, c.before args0 about1 = true := by
  rw [codes_eq]
  intro c hc
  simp only [codes1, List.mem_cons, List.not_mem_nil, or_false] at hc
  rcases hc with rfl | rfl | rfl | rfl | rfl | rfl | rfl | rfl | rfl | rfl | rfl | rfl | rfl | rfl | rfl | rfl | rfl | rfl | rfl | rfl | rfl | rfl | rfl
  · exact w_c0
  · exact w_c1
  · exact w_c2
  · exact w_c3
  · exact w_c4
  · exact w_c5
  · exact w_c6
  · exact w_c7
  · exact w_c8
  · exact w_c9
  · exact w_c10
  · exact w_c11
  · exact w_c12
  · exact w_c13
  · exact w_c14
  · exact w_c15
  · exact w_c16
  · exact w_c17
  · exact w_c18
  · exact w_c19
  · exact w_c20
  · exact w_c21
  · exact w_c22
set_option maxRecDepth 65536 in
theorem w_t1 : (words1.take 24).all (fun c => isCode c || c.before args0 about1) = true := by decide +kernel
set_option maxRecDepth 65536 in
theorem w_t2 : ((words1.drop 24).take 24).all (fun c => isCode c || c.before args0 about1) = true := by decide +kernel
set_option maxRecDepth 65536 in
theorem w_t3 : (((words1.drop 24).drop 24).take 24).all (fun c => isCode c || c.before args0 about1) = true := by decide +kernel
set_option maxRecDepth 65536 in
theorem w_t4 : ((((words1.drop 24).drop 24).drop 24).take 24).all (fun c => isCode c || c.before args0 about1) = true := by decide +kernel
set_option maxRecDepth 65536 in
theorem w_t5 : (((((words1.drop 24).drop 24).drop 24).drop 24).take 24).all (fun c => isCode c || c.before args0 about1) = true := by decide +kernel
set_option maxRecDepth 65536 in
theorem w_t6 : (((((words1.drop 24).drop 24).drop 24).drop 24).drop 24).all (fun c => isCode c || c.before args0 about1) = true := by decide +kernel
theorem w_tables : (allAtoms (Jvm.Cond.code x code maxLocals ret :: tables_1)).before args0 about1 = true := by
  rw [allAtoms_all]
  show words1.all (fun c => c.before args0 about1) = true
  refine all_split ?_ w_codes
  rw [← List.take_append_drop 24 words1, List.all_append, w_t1, ← List.take_append_drop 24 (words1.drop 24), List.all_append, w_t2, ← List.take_append_drop 24 ((words1.drop 24).drop 24), List.all_append, w_t3, ← List.take_append_drop 24 (((words1.drop 24).drop 24).drop 24), List.all_append, w_t4, ← List.take_append_drop 24 ((((words1.drop 24).drop 24).drop 24).drop 24), List.all_append, w_t5, w_t6]
  rfl
set_option maxRecDepth 65536 in
theorem w_rest : rest_1_c.before args0 about1 = true := by decide +kernel
set_option maxRecDepth 65536 in
theorem w_case : (Jvm.Cond.and given_1 narrow_1).before args0 about1 = true := by decide +kernel
theorem w_applies : (headSpec (Jvm.Cond.code x code maxLocals ret :: tables_1) room_1).applies x e0.platform about1 = true :=
  (Spec.applies_iff w_frames).mpr ⟨w_running, w_runnable, w_alone, w_named, w_hears, w_ripe, w_room, w_tables⟩
theorem atStart : AtStart classFile x code maxLocals ret World_1 tables_1 room_1 Calls_1 rest_1 Pre_1 launch0 p0 e0 about1 theMethod args0 below0 :=
  ⟨lists_1, trivial, launch0.admits_env _ _ _, launch0.least_env, fairChoices_fair.cas, fairChoices_fair.clock, w_frames, w_args, w_heap, w_applies, trivial, w_rest, w_case⟩
end start1
theorem witness_1 : WitnessClaimed_1 := ⟨start1.p0, start1.e0, start1.about1, start1.theMethod, start1.args0, start1.below0, start1.atStart⟩
end Jvm.Pilot.@@N@@
