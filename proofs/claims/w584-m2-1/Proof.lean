import JvmDerived
import JvmDerived.Pilot.@@N@@Statement
import JvmDerived.Pilot.@@N@@Code
set_option linter.unusedVariables false
set_option linter.unusedSimpArgs false
namespace Jvm.RoadKit
open Sem ClassFile Op Lib Jvm.Stand Jvm.Free Jvm.LawKit
section Own
variable {p : Program} {l : Launch} {e : Env} {R : Room} {s : State} {m : MethodId} {args : Array Value} {below : List Frame} {meth : Method} {c : Code} {T : State} {locs : List Loc} {cells slots : Nat} {Fe : Outcome → State → List Loc → Nat → Nat → Prop} {Qf : Option Value → Heap → List Loc → Prop} {kc ks : Nat} {code : ByteArray} {pc pc' : Nat} {Ls l' : Array Slot} {rest : List Value} {Z : State} {a0 : Array Value} {h : Heap}
/-- from the state S the call ends well: it returns, what is returned and the heap at the end meet Qf, and the frame is kept -/
def Gol (p : Program) (e : Env) (below : List Frame) (Fe : Outcome → State → List Loc → Nat → Nat → Prop) (Qf : Option Value → Heap → List Loc → Prop) (kc ks : Nat) (S : State) : Prop :=
  ∃ s₂ o, Steps p.tables e below S s₂ ∧ s₂.status = .running ∧ Ended s₂ below o ∧ ∃ v L, o = .returned v ∧ Qf v s₂.heap L ∧ Fe o s₂ L kc ks
theorem Gol.step {S S' : State} (st : ∀ t, Steps p.tables e below S' t → Steps p.tables e below S t) (k : Gol p e below Fe Qf kc ks S') : Gol p e below Fe Qf kc ks S := by
  obtain ⟨s₂, o, h, r⟩ := k
  exact ⟨s₂, o, st _ h, r⟩
theorem Gol.dia {S S' : State} (h1 : Gol p e below Fe Qf kc ks S' → Gol p e below Fe Qf kc ks S) (h2 : Gol p e below Fe Qf kc ks S') : Gol p e below Fe Qf kc ks S := h1 h2
theorem Gol.all {A : Type} {B : A → Prop} {S : State} {S' : A → State} (h2 : ∀ a, B a → Gol p e below Fe Qf kc ks (S' a)) (h1 : (∀ a, B a → Gol p e below Fe Qf kc ks (S' a)) → Gol p e below Fe Qf kc ks S) : Gol p e below Fe Qf kc ks S := h1 h2
/-- the run stands at pc -/
abbrev GolF (p : Program) (e : Env) (below : List Frame) (Fe : Outcome → State → List Loc → Nat → Nat → Prop) (Qf : Option Value → Heap → List Loc → Prop) (kc ks : Nat) (T : State) (m : MethodId) (pc : Nat) (Ls : Array Slot) (st : List Value) : Prop := Gol p e below Fe Qf kc ks (T.setTop (mkF m pc Ls st))
theorem Gol.fin (X : Stand p l e R s m args below meth c T locs cells slots) {v : Option Value} (hv : meth.sig.returnType = none → v = none) (hlk : meth.locks = false) {S : State} (eT : T.heap = h) (hq : Qf v h locs) (hc : cells ≤ kc) (hs : slots ≤ ks)
    (st : ∀ fs, (∀ (f : JFrame) (acts : List Action), f.method = m → f.locked = none → f.entered = [] → (doReturn e (T.setTop f) acts v).1 = T.setFrames fs) → Steps p.tables e below S (T.setFrames fs)) : Gol p e below (FrameEnd s) Qf kc ks S := by
  obtain ⟨fs, hr, hrun, hended, hW, hsame⟩ := X.leave (v := v) hv hlk
  refine ⟨_, _, st fs hr, hrun, hended, _, _, rfl, ?_, ⟨_, rfl⟩, hW, hsame.mono hc hs⟩
  show Qf v T.heap locs
  rw [eT]; exact hq
theorem Gol.finW {vm₁ : Vm} (X : Stand p l e R (s.setVm vm₁) m args below meth c T locs cells slots) {n : Nat} (hS : s.Since vm₁ n) (hn : n ≤ T.heap.size) {v : Option Value} (hv : meth.sig.returnType = none → v = none) (hlk : meth.locks = false) {S : State} (eT : T.heap = h) (hq : Qf v h locs) (hc : cells ≤ kc) (hs : slots ≤ ks)
    (st : ∀ fs, (∀ (f : JFrame) (acts : List Action), f.method = m → f.locked = none → f.entered = [] → (doReturn e (T.setTop f) acts v).1 = T.setFrames fs) → Steps p.tables e below S (T.setFrames fs)) : Gol p e below (ReturnedEndW s) Qf kc ks S := by
  obtain ⟨fs, hr, hrun, hended, h1, h2, h3, h4⟩ := X.leaveW hS hn (v := v) hv hlk
  refine ⟨_, _, st fs hr, hrun, hended, _, _, rfl, ?_, h1, h2, h3, h4.mono hc hs⟩
  show Qf v T.heap locs
  rw [eT]; exact hq
theorem Gol.aloadN (X : Stand p l e R s m args below meth c T locs cells slots) (hx : p.tables.exec = Jvm.exec) (hby : c.code = code) {k : Fin 4} {v : Value} (hd : decode code pc = .ok (.aload_n k, 1)) (hp : pc + 1 = pc') (hl : Ls[k.val]? = some (.val v)) (hv : v.isRef = true) (k : GolF p e below Fe Qf kc ks T m pc' Ls (v :: rest)) : GolF p e below Fe Qf kc ks T m pc Ls rest := by
  subst hp
  exact Gol.step (fun _ k => XS.aloadN X.here hx rfl (hb hby hd) hl hv k) k
theorem Gol.aload (X : Stand p l e R s m args below meth c T locs cells slots) (hx : p.tables.exec = Jvm.exec) (hby : c.code = code) {k : Nat} {v : Value} (hd : decode code pc = .ok (.aload k, 2)) (hp : pc + 2 = pc') (hl : Ls[k]? = some (.val v)) (hv : v.isRef = true) (k : GolF p e below Fe Qf kc ks T m pc' Ls (v :: rest)) : GolF p e below Fe Qf kc ks T m pc Ls rest := by
  subst hp
  exact Gol.step (fun _ k => XS.aload X.here hx rfl (hb hby hd) hl hv k) k
theorem Gol.iloadN (X : Stand p l e R s m args below meth c T locs cells slots) (hx : p.tables.exec = Jvm.exec) (hby : c.code = code) {k : Fin 4} {v : Int32} (hd : decode code pc = .ok (.iload_n k, 1)) (hp : pc + 1 = pc') (hl : Ls[k.val]? = some (.val (.int v))) (k : GolF p e below Fe Qf kc ks T m pc' Ls (.int v :: rest)) : GolF p e below Fe Qf kc ks T m pc Ls rest := by
  subst hp
  exact Gol.step (fun _ k => XS.iloadN X.here hx rfl (hb hby hd) hl k) k
theorem Gol.iload (X : Stand p l e R s m args below meth c T locs cells slots) (hx : p.tables.exec = Jvm.exec) (hby : c.code = code) {k : Nat} {v : Int32} (hd : decode code pc = .ok (.iload k, 2)) (hp : pc + 2 = pc') (hl : Ls[k]? = some (.val (.int v))) (k : GolF p e below Fe Qf kc ks T m pc' Ls (.int v :: rest)) : GolF p e below Fe Qf kc ks T m pc Ls rest := by
  subst hp
  exact Gol.step (fun _ k => XS.iload X.here hx rfl (hb hby hd) hl k) k
theorem Gol.istoreN (X : Stand p l e R s m args below meth c T locs cells slots) (hx : p.tables.exec = Jvm.exec) (hby : c.code = code) {k : Fin 4} {x : Int32} (hd : decode code pc = .ok (.istore_n k, 1)) (hp : pc + 1 = pc') (hl : storeLocals Ls k.val (.int x) = some l') (k : GolF p e below Fe Qf kc ks T m pc' l' rest) : GolF p e below Fe Qf kc ks T m pc Ls (.int x :: rest) := by
  subst hp
  exact Gol.step (fun _ k => XS.istoreN X.here hx rfl (hb hby hd) rfl hl k) k
theorem Gol.istore (X : Stand p l e R s m args below meth c T locs cells slots) (hx : p.tables.exec = Jvm.exec) (hby : c.code = code) {k : Nat} {x : Int32} (hd : decode code pc = .ok (.istore k, 2)) (hp : pc + 2 = pc') (hl : storeLocals Ls k (.int x) = some l') (k : GolF p e below Fe Qf kc ks T m pc' l' rest) : GolF p e below Fe Qf kc ks T m pc Ls (.int x :: rest) := by
  subst hp
  exact Gol.step (fun _ k => XS.istore X.here hx rfl (hb hby hd) rfl hl k) k
theorem Gol.lloadN (X : Stand p l e R s m args below meth c T locs cells slots) (hx : p.tables.exec = Jvm.exec) (hby : c.code = code) {k : Fin 4} {v : Int64} (hd : decode code pc = .ok (.lload_n k, 1)) (hp : pc + 1 = pc') (hl : Ls[k.val]? = some (.val (.long v))) (k : GolF p e below Fe Qf kc ks T m pc' Ls (.long v :: rest)) : GolF p e below Fe Qf kc ks T m pc Ls rest := by
  subst hp
  exact Gol.step (fun _ k => XT.lloadN X.here hx rfl (hb hby hd) hl k) k
theorem Gol.lload (X : Stand p l e R s m args below meth c T locs cells slots) (hx : p.tables.exec = Jvm.exec) (hby : c.code = code) {k : Nat} {v : Int64} (hd : decode code pc = .ok (.lload k, 2)) (hp : pc + 2 = pc') (hl : Ls[k]? = some (.val (.long v))) (k : GolF p e below Fe Qf kc ks T m pc' Ls (.long v :: rest)) : GolF p e below Fe Qf kc ks T m pc Ls rest := by
  subst hp
  exact Gol.step (fun _ k => XT.lload X.here hx rfl (hb hby hd) hl k) k
theorem Gol.lstoreN (X : Stand p l e R s m args below meth c T locs cells slots) (hx : p.tables.exec = Jvm.exec) (hby : c.code = code) {k : Fin 4} {x : Int64} (hd : decode code pc = .ok (.lstore_n k, 1)) (hp : pc + 1 = pc') (hl : storeLocals Ls k.val (.long x) = some l') (k : GolF p e below Fe Qf kc ks T m pc' l' rest) : GolF p e below Fe Qf kc ks T m pc Ls (.long x :: rest) := by
  subst hp
  exact Gol.step (fun _ k => XT.lstoreN X.here hx rfl (hb hby hd) rfl hl k) k
theorem Gol.lstore (X : Stand p l e R s m args below meth c T locs cells slots) (hx : p.tables.exec = Jvm.exec) (hby : c.code = code) {k : Nat} {x : Int64} (hd : decode code pc = .ok (.lstore k, 2)) (hp : pc + 2 = pc') (hl : storeLocals Ls k (.long x) = some l') (k : GolF p e below Fe Qf kc ks T m pc' l' rest) : GolF p e below Fe Qf kc ks T m pc Ls (.long x :: rest) := by
  subst hp
  exact Gol.step (fun _ k => XT.lstore X.here hx rfl (hb hby hd) rfl hl k) k
theorem Gol.astoreN (X : Stand p l e R s m args below meth c T locs cells slots) (hx : p.tables.exec = Jvm.exec) (hby : c.code = code) {k : Fin 4} {x : Value} (hd : decode code pc = .ok (.astore_n k, 1)) (hp : pc + 1 = pc') (hv : x.isRef = true) (hl : storeLocals Ls k.val x = some l') (k : GolF p e below Fe Qf kc ks T m pc' l' rest) : GolF p e below Fe Qf kc ks T m pc Ls (x :: rest) := by
  subst hp
  exact Gol.step (fun _ k => XS.astoreN X.here hx rfl (hb hby hd) rfl hv hl k) k
theorem Gol.astore (X : Stand p l e R s m args below meth c T locs cells slots) (hx : p.tables.exec = Jvm.exec) (hby : c.code = code) {k : Nat} {x : Value} (hd : decode code pc = .ok (.astore k, 2)) (hp : pc + 2 = pc') (hv : x.isRef = true) (hl : storeLocals Ls k x = some l') (k : GolF p e below Fe Qf kc ks T m pc' l' rest) : GolF p e below Fe Qf kc ks T m pc Ls (x :: rest) := by
  subst hp
  exact Gol.step (fun _ k => XS.astore X.here hx rfl (hb hby hd) rfl hv hl k) k
theorem Gol.iconst (X : Stand p l e R s m args below meth c T locs cells slots) (hx : p.tables.exec = Jvm.exec) (hby : c.code = code) {i : Int} {z : Int32} (hd : decode code pc = .ok (.iconst i, 1)) (hp : pc + 1 = pc') (hz : Int32.ofInt i = z) (k : GolF p e below Fe Qf kc ks T m pc' Ls (.int z :: rest)) : GolF p e below Fe Qf kc ks T m pc Ls rest := by
  subst hp hz
  exact Gol.step (fun _ k => XS.iconst X.here hx rfl (hb hby hd) k) k
theorem Gol.bipush (X : Stand p l e R s m args below meth c T locs cells slots) (hx : p.tables.exec = Jvm.exec) (hby : c.code = code) {i : Int} {z : Int32} (hd : decode code pc = .ok (.bipush i, 2)) (hp : pc + 2 = pc') (hz : (Int8.ofInt i).toInt32 = z) (k : GolF p e below Fe Qf kc ks T m pc' Ls (.int z :: rest)) : GolF p e below Fe Qf kc ks T m pc Ls rest := by
  subst hp hz
  exact Gol.step (fun _ k => XS.bipush X.here hx rfl (hb hby hd) k) k
theorem Gol.sipush (X : Stand p l e R s m args below meth c T locs cells slots) (hx : p.tables.exec = Jvm.exec) (hby : c.code = code) {i : Int} {z : Int32} (hd : decode code pc = .ok (.sipush i, 3)) (hp : pc + 3 = pc') (hz : (Int16.ofInt i).toInt32 = z) (k : GolF p e below Fe Qf kc ks T m pc' Ls (.int z :: rest)) : GolF p e below Fe Qf kc ks T m pc Ls rest := by
  subst hp hz
  exact Gol.step (fun _ k => XS.sipush X.here hx rfl (hb hby hd) k) k
theorem Gol.lconst (X : Stand p l e R s m args below meth c T locs cells slots) (hx : p.tables.exec = Jvm.exec) (hby : c.code = code) {i : Fin 2} {z : Int64} (hd : decode code pc = .ok (.lconst i, 1)) (hp : pc + 1 = pc') (hz : Int64.ofNat i = z) (k : GolF p e below Fe Qf kc ks T m pc' Ls (.long z :: rest)) : GolF p e below Fe Qf kc ks T m pc Ls rest := by
  subst hp hz
  exact Gol.step (fun _ k => XT.lconst X.here hx rfl (hb hby hd) k) k
theorem Gol.aconstNull (X : Stand p l e R s m args below meth c T locs cells slots) (hx : p.tables.exec = Jvm.exec) (hby : c.code = code) (hd : decode code pc = .ok (.aconst_null, 1)) (hp : pc + 1 = pc') (k : GolF p e below Fe Qf kc ks T m pc' Ls (.null :: rest)) : GolF p e below Fe Qf kc ks T m pc Ls rest := by
  subst hp
  exact Gol.step (fun _ k => XS.aconstNull X.here hx rfl (hb hby hd) k) k
theorem Gol.iadd (X : Stand p l e R s m args below meth c T locs cells slots) (hx : p.tables.exec = Jvm.exec) (hby : c.code = code) {x y z : Int32} (hd : decode code pc = .ok (.iadd, 1)) (hp : pc + 1 = pc') (hz : x + y = z) (k : GolF p e below Fe Qf kc ks T m pc' Ls (.int z :: rest)) : GolF p e below Fe Qf kc ks T m pc Ls (.int y :: .int x :: rest) := by
  subst hp hz
  exact Gol.step (fun _ k => XS.iadd X.here hx rfl (hb hby hd) rfl k) k
theorem Gol.ladd (X : Stand p l e R s m args below meth c T locs cells slots) (hx : p.tables.exec = Jvm.exec) (hby : c.code = code) {x y z : Int64} (hd : decode code pc = .ok (.ladd, 1)) (hp : pc + 1 = pc') (hz : x + y = z) (k : GolF p e below Fe Qf kc ks T m pc' Ls (.long z :: rest)) : GolF p e below Fe Qf kc ks T m pc Ls (.long y :: .long x :: rest) := by
  subst hp hz
  exact Gol.step (fun _ k => XT.ladd X.here hx rfl (hb hby hd) rfl k) k
theorem Gol.isub (X : Stand p l e R s m args below meth c T locs cells slots) (hx : p.tables.exec = Jvm.exec) (hby : c.code = code) {x y z : Int32} (hd : decode code pc = .ok (.isub, 1)) (hp : pc + 1 = pc') (hz : x - y = z) (k : GolF p e below Fe Qf kc ks T m pc' Ls (.int z :: rest)) : GolF p e below Fe Qf kc ks T m pc Ls (.int y :: .int x :: rest) := by
  subst hp hz
  exact Gol.step (fun _ k => XS.isub X.here hx rfl (hb hby hd) rfl k) k
theorem Gol.lsub (X : Stand p l e R s m args below meth c T locs cells slots) (hx : p.tables.exec = Jvm.exec) (hby : c.code = code) {x y z : Int64} (hd : decode code pc = .ok (.lsub, 1)) (hp : pc + 1 = pc') (hz : x - y = z) (k : GolF p e below Fe Qf kc ks T m pc' Ls (.long z :: rest)) : GolF p e below Fe Qf kc ks T m pc Ls (.long y :: .long x :: rest) := by
  subst hp hz
  exact Gol.step (fun _ k => XT.lsub X.here hx rfl (hb hby hd) rfl k) k
theorem Gol.imul (X : Stand p l e R s m args below meth c T locs cells slots) (hx : p.tables.exec = Jvm.exec) (hby : c.code = code) {x y z : Int32} (hd : decode code pc = .ok (.imul, 1)) (hp : pc + 1 = pc') (hz : x * y = z) (k : GolF p e below Fe Qf kc ks T m pc' Ls (.int z :: rest)) : GolF p e below Fe Qf kc ks T m pc Ls (.int y :: .int x :: rest) := by
  subst hp hz
  exact Gol.step (fun _ k => XS.imul X.here hx rfl (hb hby hd) rfl k) k
theorem Gol.lmul (X : Stand p l e R s m args below meth c T locs cells slots) (hx : p.tables.exec = Jvm.exec) (hby : c.code = code) {x y z : Int64} (hd : decode code pc = .ok (.lmul, 1)) (hp : pc + 1 = pc') (hz : x * y = z) (k : GolF p e below Fe Qf kc ks T m pc' Ls (.long z :: rest)) : GolF p e below Fe Qf kc ks T m pc Ls (.long y :: .long x :: rest) := by
  subst hp hz
  exact Gol.step (fun _ k => XT.lmul X.here hx rfl (hb hby hd) rfl k) k
theorem Gol.iand (X : Stand p l e R s m args below meth c T locs cells slots) (hx : p.tables.exec = Jvm.exec) (hby : c.code = code) {x y z : Int32} (hd : decode code pc = .ok (.iand, 1)) (hp : pc + 1 = pc') (hz : x &&& y = z) (k : GolF p e below Fe Qf kc ks T m pc' Ls (.int z :: rest)) : GolF p e below Fe Qf kc ks T m pc Ls (.int y :: .int x :: rest) := by
  subst hp hz
  exact Gol.step (fun _ k => XS.iand X.here hx rfl (hb hby hd) rfl k) k
theorem Gol.land (X : Stand p l e R s m args below meth c T locs cells slots) (hx : p.tables.exec = Jvm.exec) (hby : c.code = code) {x y z : Int64} (hd : decode code pc = .ok (.land, 1)) (hp : pc + 1 = pc') (hz : x &&& y = z) (k : GolF p e below Fe Qf kc ks T m pc' Ls (.long z :: rest)) : GolF p e below Fe Qf kc ks T m pc Ls (.long y :: .long x :: rest) := by
  subst hp hz
  exact Gol.step (fun _ k => XT.land X.here hx rfl (hb hby hd) rfl k) k
theorem Gol.ior (X : Stand p l e R s m args below meth c T locs cells slots) (hx : p.tables.exec = Jvm.exec) (hby : c.code = code) {x y z : Int32} (hd : decode code pc = .ok (.ior, 1)) (hp : pc + 1 = pc') (hz : x ||| y = z) (k : GolF p e below Fe Qf kc ks T m pc' Ls (.int z :: rest)) : GolF p e below Fe Qf kc ks T m pc Ls (.int y :: .int x :: rest) := by
  subst hp hz
  exact Gol.step (fun _ k => XT.ior X.here hx rfl (hb hby hd) rfl k) k
theorem Gol.lor (X : Stand p l e R s m args below meth c T locs cells slots) (hx : p.tables.exec = Jvm.exec) (hby : c.code = code) {x y z : Int64} (hd : decode code pc = .ok (.lor, 1)) (hp : pc + 1 = pc') (hz : x ||| y = z) (k : GolF p e below Fe Qf kc ks T m pc' Ls (.long z :: rest)) : GolF p e below Fe Qf kc ks T m pc Ls (.long y :: .long x :: rest) := by
  subst hp hz
  exact Gol.step (fun _ k => XT.lor X.here hx rfl (hb hby hd) rfl k) k
theorem Gol.ixor (X : Stand p l e R s m args below meth c T locs cells slots) (hx : p.tables.exec = Jvm.exec) (hby : c.code = code) {x y z : Int32} (hd : decode code pc = .ok (.ixor, 1)) (hp : pc + 1 = pc') (hz : x ^^^ y = z) (k : GolF p e below Fe Qf kc ks T m pc' Ls (.int z :: rest)) : GolF p e below Fe Qf kc ks T m pc Ls (.int y :: .int x :: rest) := by
  subst hp hz
  exact Gol.step (fun _ k => XT.ixor X.here hx rfl (hb hby hd) rfl k) k
theorem Gol.lxor (X : Stand p l e R s m args below meth c T locs cells slots) (hx : p.tables.exec = Jvm.exec) (hby : c.code = code) {x y z : Int64} (hd : decode code pc = .ok (.lxor, 1)) (hp : pc + 1 = pc') (hz : x ^^^ y = z) (k : GolF p e below Fe Qf kc ks T m pc' Ls (.long z :: rest)) : GolF p e below Fe Qf kc ks T m pc Ls (.long y :: .long x :: rest) := by
  subst hp hz
  exact Gol.step (fun _ k => XT.lxor X.here hx rfl (hb hby hd) rfl k) k
theorem Gol.ishl (X : Stand p l e R s m args below meth c T locs cells slots) (hx : p.tables.exec = Jvm.exec) (hby : c.code = code) {x y z : Int32} (hd : decode code pc = .ok (.ishl, 1)) (hp : pc + 1 = pc') (hz : x <<< (y &&& 31) = z) (k : GolF p e below Fe Qf kc ks T m pc' Ls (.int z :: rest)) : GolF p e below Fe Qf kc ks T m pc Ls (.int y :: .int x :: rest) := by
  subst hp hz
  exact Gol.step (fun _ k => XT.ishl X.here hx rfl (hb hby hd) rfl k) k
theorem Gol.ishr (X : Stand p l e R s m args below meth c T locs cells slots) (hx : p.tables.exec = Jvm.exec) (hby : c.code = code) {x y z : Int32} (hd : decode code pc = .ok (.ishr, 1)) (hp : pc + 1 = pc') (hz : x >>> (y &&& 31) = z) (k : GolF p e below Fe Qf kc ks T m pc' Ls (.int z :: rest)) : GolF p e below Fe Qf kc ks T m pc Ls (.int y :: .int x :: rest) := by
  subst hp hz
  exact Gol.step (fun _ k => XT.ishr X.here hx rfl (hb hby hd) rfl k) k
theorem Gol.iushr (X : Stand p l e R s m args below meth c T locs cells slots) (hx : p.tables.exec = Jvm.exec) (hby : c.code = code) {x y z : Int32} (hd : decode code pc = .ok (.iushr, 1)) (hp : pc + 1 = pc') (hz : XT.ushr x y = z) (k : GolF p e below Fe Qf kc ks T m pc' Ls (.int z :: rest)) : GolF p e below Fe Qf kc ks T m pc Ls (.int y :: .int x :: rest) := by
  subst hp hz
  exact Gol.step (fun _ k => XT.iushr X.here hx rfl (hb hby hd) rfl k) k
theorem Gol.lshl (X : Stand p l e R s m args below meth c T locs cells slots) (hx : p.tables.exec = Jvm.exec) (hby : c.code = code) {x z : Int64} {y : Int32} (hd : decode code pc = .ok (.lshl, 1)) (hp : pc + 1 = pc') (hz : x <<< (y.toInt64 &&& 63) = z) (k : GolF p e below Fe Qf kc ks T m pc' Ls (.long z :: rest)) : GolF p e below Fe Qf kc ks T m pc Ls (.int y :: .long x :: rest) := by
  subst hp hz
  exact Gol.step (fun _ k => XT.lshl X.here hx rfl (hb hby hd) rfl k) k
theorem Gol.lshr (X : Stand p l e R s m args below meth c T locs cells slots) (hx : p.tables.exec = Jvm.exec) (hby : c.code = code) {x z : Int64} {y : Int32} (hd : decode code pc = .ok (.lshr, 1)) (hp : pc + 1 = pc') (hz : x >>> (y.toInt64 &&& 63) = z) (k : GolF p e below Fe Qf kc ks T m pc' Ls (.long z :: rest)) : GolF p e below Fe Qf kc ks T m pc Ls (.int y :: .long x :: rest) := by
  subst hp hz
  exact Gol.step (fun _ k => XT.lshr X.here hx rfl (hb hby hd) rfl k) k
theorem Gol.lushr (X : Stand p l e R s m args below meth c T locs cells slots) (hx : p.tables.exec = Jvm.exec) (hby : c.code = code) {x z : Int64} {y : Int32} (hd : decode code pc = .ok (.lushr, 1)) (hp : pc + 1 = pc') (hz : XT.ushrL x y = z) (k : GolF p e below Fe Qf kc ks T m pc' Ls (.long z :: rest)) : GolF p e below Fe Qf kc ks T m pc Ls (.int y :: .long x :: rest) := by
  subst hp hz
  exact Gol.step (fun _ k => XT.lushr X.here hx rfl (hb hby hd) rfl k) k
theorem Gol.lcmp (X : Stand p l e R s m args below meth c T locs cells slots) (hx : p.tables.exec = Jvm.exec) (hby : c.code = code) {x y : Int64} (hd : decode code pc = .ok (.lcmp, 1)) (hp : pc + 1 = pc') (k : GolF p e below Fe Qf kc ks T m pc' Ls (.int (XT.cmpL x y) :: rest)) : GolF p e below Fe Qf kc ks T m pc Ls (.long y :: .long x :: rest) := by
  subst hp
  exact Gol.step (fun _ k => XT.lcmp X.here hx rfl (hb hby hd) rfl k) k
theorem Gol.ineg (X : Stand p l e R s m args below meth c T locs cells slots) (hx : p.tables.exec = Jvm.exec) (hby : c.code = code) {x : Int32} {z : Int32} (hd : decode code pc = .ok (.ineg, 1)) (hp : pc + 1 = pc') (hz : -x = z) (k : GolF p e below Fe Qf kc ks T m pc' Ls (.int z :: rest)) : GolF p e below Fe Qf kc ks T m pc Ls (.int x :: rest) := by
  subst hp hz
  exact Gol.step (fun _ k => XS.ineg X.here hx rfl (hb hby hd) rfl k) k
theorem Gol.lneg (X : Stand p l e R s m args below meth c T locs cells slots) (hx : p.tables.exec = Jvm.exec) (hby : c.code = code) {x : Int64} {z : Int64} (hd : decode code pc = .ok (.lneg, 1)) (hp : pc + 1 = pc') (hz : -x = z) (k : GolF p e below Fe Qf kc ks T m pc' Ls (.long z :: rest)) : GolF p e below Fe Qf kc ks T m pc Ls (.long x :: rest) := by
  subst hp hz
  exact Gol.step (fun _ k => XT.lneg X.here hx rfl (hb hby hd) rfl k) k
theorem Gol.i2l (X : Stand p l e R s m args below meth c T locs cells slots) (hx : p.tables.exec = Jvm.exec) (hby : c.code = code) {x : Int32} {z : Int64} (hd : decode code pc = .ok (.i2l, 1)) (hp : pc + 1 = pc') (hz : x.toInt64 = z) (k : GolF p e below Fe Qf kc ks T m pc' Ls (.long z :: rest)) : GolF p e below Fe Qf kc ks T m pc Ls (.int x :: rest) := by
  subst hp hz
  exact Gol.step (fun _ k => XT.i2l X.here hx rfl (hb hby hd) rfl k) k
theorem Gol.l2i (X : Stand p l e R s m args below meth c T locs cells slots) (hx : p.tables.exec = Jvm.exec) (hby : c.code = code) {x : Int64} {z : Int32} (hd : decode code pc = .ok (.l2i, 1)) (hp : pc + 1 = pc') (hz : x.toInt32 = z) (k : GolF p e below Fe Qf kc ks T m pc' Ls (.int z :: rest)) : GolF p e below Fe Qf kc ks T m pc Ls (.long x :: rest) := by
  subst hp hz
  exact Gol.step (fun _ k => XT.l2i X.here hx rfl (hb hby hd) rfl k) k
theorem Gol.i2b (X : Stand p l e R s m args below meth c T locs cells slots) (hx : p.tables.exec = Jvm.exec) (hby : c.code = code) {x : Int32} {z : Int32} (hd : decode code pc = .ok (.i2b, 1)) (hp : pc + 1 = pc') (hz : x.toInt8.toInt32 = z) (k : GolF p e below Fe Qf kc ks T m pc' Ls (.int z :: rest)) : GolF p e below Fe Qf kc ks T m pc Ls (.int x :: rest) := by
  subst hp hz
  exact Gol.step (fun _ k => XT.i2b X.here hx rfl (hb hby hd) rfl k) k
theorem Gol.i2s (X : Stand p l e R s m args below meth c T locs cells slots) (hx : p.tables.exec = Jvm.exec) (hby : c.code = code) {x : Int32} {z : Int32} (hd : decode code pc = .ok (.i2s, 1)) (hp : pc + 1 = pc') (hz : x.toInt16.toInt32 = z) (k : GolF p e below Fe Qf kc ks T m pc' Ls (.int z :: rest)) : GolF p e below Fe Qf kc ks T m pc Ls (.int x :: rest) := by
  subst hp hz
  exact Gol.step (fun _ k => XT.i2s X.here hx rfl (hb hby hd) rfl k) k
theorem Gol.i2c (X : Stand p l e R s m args below meth c T locs cells slots) (hx : p.tables.exec = Jvm.exec) (hby : c.code = code) {x : Int32} {z : Int32} (hd : decode code pc = .ok (.i2c, 1)) (hp : pc + 1 = pc') (hz : x.toUInt32.toUInt16.toUInt32.toInt32 = z) (k : GolF p e below Fe Qf kc ks T m pc' Ls (.int z :: rest)) : GolF p e below Fe Qf kc ks T m pc Ls (.int x :: rest) := by
  subst hp hz
  exact Gol.step (fun _ k => XT.i2c X.here hx rfl (hb hby hd) rfl k) k
theorem Gol.idiv (X : Stand p l e R s m args below meth c T locs cells slots) (hx : p.tables.exec = Jvm.exec) (hby : c.code = code) {x y : Int32} (hd : decode code pc = .ok (.idiv, 1)) (hp : pc + 1 = pc') (hy : y ≠ 0) (k : GolF p e below Fe Qf kc ks T m pc' Ls (.int (x / y) :: rest)) : GolF p e below Fe Qf kc ks T m pc Ls (.int y :: .int x :: rest) := by
  subst hp
  exact Gol.step (fun _ k => XS.idiv X.here hx rfl (hb hby hd) rfl hy k) k
theorem Gol.irem (X : Stand p l e R s m args below meth c T locs cells slots) (hx : p.tables.exec = Jvm.exec) (hby : c.code = code) {x y : Int32} (hd : decode code pc = .ok (.irem, 1)) (hp : pc + 1 = pc') (hy : y ≠ 0) (k : GolF p e below Fe Qf kc ks T m pc' Ls (.int (x % y) :: rest)) : GolF p e below Fe Qf kc ks T m pc Ls (.int y :: .int x :: rest) := by
  subst hp
  exact Gol.step (fun _ k => Jvm.RoadKit.iremM X hx rfl (hb hby hd) rfl hy k) k
theorem Gol.ldiv (X : Stand p l e R s m args below meth c T locs cells slots) (hx : p.tables.exec = Jvm.exec) (hby : c.code = code) {x y : Int64} (hd : decode code pc = .ok (.ldiv, 1)) (hp : pc + 1 = pc') (hy : y ≠ 0) (k : GolF p e below Fe Qf kc ks T m pc' Ls (.long (x / y) :: rest)) : GolF p e below Fe Qf kc ks T m pc Ls (.long y :: .long x :: rest) := by
  subst hp
  exact Gol.step (fun _ k => XT.ldiv X.here hx rfl (hb hby hd) rfl hy k) k
theorem Gol.lrem (X : Stand p l e R s m args below meth c T locs cells slots) (hx : p.tables.exec = Jvm.exec) (hby : c.code = code) {x y : Int64} (hd : decode code pc = .ok (.lrem, 1)) (hp : pc + 1 = pc') (hy : y ≠ 0) (k : GolF p e below Fe Qf kc ks T m pc' Ls (.long (x - (x / y) * y) :: rest)) : GolF p e below Fe Qf kc ks T m pc Ls (.long y :: .long x :: rest) := by
  subst hp
  exact Gol.step (fun _ k => XT.lrem X.here hx rfl (hb hby hd) rfl hy k) k
theorem Gol.iinc (X : Stand p l e R s m args below meth c T locs cells slots) (hx : p.tables.exec = Jvm.exec) (hby : c.code = code) {k : Nat} {cst : Int} {x : Int32} (hd : decode code pc = .ok (.iinc k cst, 3)) (hp : pc + 3 = pc') (hl : Ls[k]? = some (.val (.int x))) (hl' : storeLocals Ls k (.int (x + Int32.ofInt cst)) = some l') (k : GolF p e below Fe Qf kc ks T m pc' l' rest) : GolF p e below Fe Qf kc ks T m pc Ls rest := by
  subst hp
  exact Gol.step (fun _ k => XS.iinc X.here hx rfl (hb hby hd) hl hl' k) k
theorem Gol.dup (X : Stand p l e R s m args below meth c T locs cells slots) (hx : p.tables.exec = Jvm.exec) (hby : c.code = code) {x : Value} (hd : decode code pc = .ok (.dup, 1)) (hp : pc + 1 = pc') (hc : x.category = 1) (k : GolF p e below Fe Qf kc ks T m pc' Ls (x :: x :: rest)) : GolF p e below Fe Qf kc ks T m pc Ls (x :: rest) := by
  subst hp
  exact Gol.step (fun _ k => XS.dup X.here hx rfl (hb hby hd) rfl hc k) k
theorem Gol.pop (X : Stand p l e R s m args below meth c T locs cells slots) (hx : p.tables.exec = Jvm.exec) (hby : c.code = code) {x : Value} (hd : decode code pc = .ok (.pop, 1)) (hp : pc + 1 = pc') (hc : x.category = 1) (k : GolF p e below Fe Qf kc ks T m pc' Ls rest) : GolF p e below Fe Qf kc ks T m pc Ls (x :: rest) := by
  subst hp
  exact Gol.step (fun _ k => XT.pop X.here hx rfl (hb hby hd) rfl hc k) k
theorem Gol.dupX1 (X : Stand p l e R s m args below meth c T locs cells slots) (hx : p.tables.exec = Jvm.exec) (hby : c.code = code) {x y : Value} (hd : decode code pc = .ok (.dup_x1, 1)) (hp : pc + 1 = pc') (hc : x.category = 1) (hc' : y.category = 1) (k : GolF p e below Fe Qf kc ks T m pc' Ls (x :: y :: x :: rest)) : GolF p e below Fe Qf kc ks T m pc Ls (x :: y :: rest) := by
  subst hp
  exact Gol.step (fun _ k => XT.dupX1 X.here hx rfl (hb hby hd) rfl hc hc' k) k
theorem Gol.dup2 (X : Stand p l e R s m args below meth c T locs cells slots) (hx : p.tables.exec = Jvm.exec) (hby : c.code = code) {x y : Value} (hd : decode code pc = .ok (.dup2, 1)) (hp : pc + 1 = pc') (hc : x.category = 1) (hc' : y.category = 1) (k : GolF p e below Fe Qf kc ks T m pc' Ls (x :: y :: x :: y :: rest)) : GolF p e below Fe Qf kc ks T m pc Ls (x :: y :: rest) := by
  subst hp
  exact Gol.step (fun _ k => XT.dup2 X.here hx rfl (hb hby hd) rfl hc hc' k) k
theorem Gol.dup2L (X : Stand p l e R s m args below meth c T locs cells slots) (hx : p.tables.exec = Jvm.exec) (hby : c.code = code) {x : Int64} (hd : decode code pc = .ok (.dup2, 1)) (hp : pc + 1 = pc') (k : GolF p e below Fe Qf kc ks T m pc' Ls (.long x :: .long x :: rest)) : GolF p e below Fe Qf kc ks T m pc Ls (.long x :: rest) := by
  subst hp
  exact Gol.step (fun _ k => XT.dup2L X.here hx rfl (hb hby hd) rfl k) k
theorem Gol.goto (X : Stand p l e R s m args below meth c T locs cells slots) (hx : p.tables.exec = Jvm.exec) (hby : c.code = code) {o : Int} (hd : decode code pc = .ok (.goto o, 3)) (hp : (pc : Int) + o = (pc' : Int)) (k : GolF p e below Fe Qf kc ks T m pc' Ls rest) : GolF p e below Fe Qf kc ks T m pc Ls rest :=
  Gol.step (fun _ k => XS.goto X.here hx rfl (pc0 := pc) rfl (hb hby hd) (by rw [hp]; exact Int.natCast_nonneg _) (by rw [hp]; rfl) k) k
theorem Gol.ifYes (X : Stand p l e R s m args below meth c T locs cells slots) (hx : p.tables.exec = Jvm.exec) (hby : c.code = code) {o : Int} {cd : ClassFile.Cond} {x : Int32} (hd : decode code pc = .ok (.ifCond cd o, 3)) (hp : (pc : Int) + o = (pc' : Int)) (hc : ifCond.holds cd x = true) (k : GolF p e below Fe Qf kc ks T m pc' Ls rest) : GolF p e below Fe Qf kc ks T m pc Ls (.int x :: rest) :=
  Gol.step (fun _ k => XS.ifYes X.here hx rfl (pc0 := pc) rfl (hb hby hd) rfl hc (by rw [hp]; exact Int.natCast_nonneg _) (by rw [hp]; rfl) k) k
theorem Gol.icmpYes (X : Stand p l e R s m args below meth c T locs cells slots) (hx : p.tables.exec = Jvm.exec) (hby : c.code = code) {o : Int} {cd : ClassFile.Cond} {x y : Int32} (hd : decode code pc = .ok (.if_icmp cd o, 3)) (hp : (pc : Int) + o = (pc' : Int)) (hc : if_icmp.holds cd x y = true) (k : GolF p e below Fe Qf kc ks T m pc' Ls rest) : GolF p e below Fe Qf kc ks T m pc Ls (.int y :: .int x :: rest) :=
  Gol.step (fun _ k => XS.icmpYes X.here hx rfl (pc0 := pc) rfl (hb hby hd) rfl hc (by rw [hp]; exact Int.natCast_nonneg _) (by rw [hp]; rfl) k) k
theorem Gol.ifNo (X : Stand p l e R s m args below meth c T locs cells slots) (hx : p.tables.exec = Jvm.exec) (hby : c.code = code) {o : Int} {cd : ClassFile.Cond} {x : Int32} (hd : decode code pc = .ok (.ifCond cd o, 3)) (hp : pc + 3 = pc') (hc : ifCond.holds cd x = false) (k : GolF p e below Fe Qf kc ks T m pc' Ls rest) : GolF p e below Fe Qf kc ks T m pc Ls (.int x :: rest) := by
  subst hp
  exact Gol.step (fun _ k => XS.ifNo X.here hx rfl (hb hby hd) rfl hc k) k
theorem Gol.icmpNo (X : Stand p l e R s m args below meth c T locs cells slots) (hx : p.tables.exec = Jvm.exec) (hby : c.code = code) {o : Int} {cd : ClassFile.Cond} {x y : Int32} (hd : decode code pc = .ok (.if_icmp cd o, 3)) (hp : pc + 3 = pc') (hc : if_icmp.holds cd x y = false) (k : GolF p e below Fe Qf kc ks T m pc' Ls rest) : GolF p e below Fe Qf kc ks T m pc Ls (.int y :: .int x :: rest) := by
  subst hp
  exact Gol.step (fun _ k => XS.icmpNo X.here hx rfl (hb hby hd) rfl hc k) k
theorem Gol.ifnullYes (X : Stand p l e R s m args below meth c T locs cells slots) (hx : p.tables.exec = Jvm.exec) (hby : c.code = code) {o : Int} (hd : decode code pc = .ok (.ifnull o, 3)) (hp : (pc : Int) + o = (pc' : Int)) (k : GolF p e below Fe Qf kc ks T m pc' Ls rest) : GolF p e below Fe Qf kc ks T m pc Ls (.null :: rest) :=
  Gol.step (fun _ k => XS.ifnullYes X.here hx rfl (pc0 := pc) rfl (hb hby hd) rfl (by rw [hp]; exact Int.natCast_nonneg _) (by rw [hp]; rfl) k) k
theorem Gol.ifnullNo (X : Stand p l e R s m args below meth c T locs cells slots) (hx : p.tables.exec = Jvm.exec) (hby : c.code = code) {o : Int} {b : Addr} (hd : decode code pc = .ok (.ifnull o, 3)) (hp : pc + 3 = pc') (k : GolF p e below Fe Qf kc ks T m pc' Ls rest) : GolF p e below Fe Qf kc ks T m pc Ls (.ref b :: rest) := by
  subst hp
  exact Gol.step (fun _ k => XS.ifnullNo X.here hx rfl (hb hby hd) rfl k) k
theorem Gol.ifnonnullYes (X : Stand p l e R s m args below meth c T locs cells slots) (hx : p.tables.exec = Jvm.exec) (hby : c.code = code) {o : Int} {b : Addr} (hd : decode code pc = .ok (.ifnonnull o, 3)) (hp : (pc : Int) + o = (pc' : Int)) (k : GolF p e below Fe Qf kc ks T m pc' Ls rest) : GolF p e below Fe Qf kc ks T m pc Ls (.ref b :: rest) :=
  Gol.step (fun _ k => XT.ifnonnullYes X.here hx rfl (pc0 := pc) rfl (hb hby hd) rfl (by rw [hp]; exact Int.natCast_nonneg _) (by rw [hp]; rfl) k) k
theorem Gol.ifnonnullNo (X : Stand p l e R s m args below meth c T locs cells slots) (hx : p.tables.exec = Jvm.exec) (hby : c.code = code) {o : Int} (hd : decode code pc = .ok (.ifnonnull o, 3)) (hp : pc + 3 = pc') (k : GolF p e below Fe Qf kc ks T m pc' Ls rest) : GolF p e below Fe Qf kc ks T m pc Ls (.null :: rest) := by
  subst hp
  exact Gol.step (fun _ k => XT.ifnonnullNo X.here hx rfl (hb hby hd) rfl k) k
theorem Gol.acmp (X : Stand p l e R s m args below meth c T locs cells slots) (hx : p.tables.exec = Jvm.exec) (hby : c.code = code) {cd : ACond} {o : Int} {x y : Value} (same : Bool) (hd : decode code pc = .ok (.if_acmp cd o, 3)) (h1 : x.isRef = true) (h2 : y.isRef = true) (hq : decide (x = y) = same) (ho : 0 ≤ (pc : Int) + o) (hp : pc' = if acV cd same = true then ((pc : Int) + o).toNat else pc + 3) (k : GolF p e below Fe Qf kc ks T m pc' Ls rest) : GolF p e below Fe Qf kc ks T m pc Ls (y :: x :: rest) :=
  Gol.step (fun _ k => Jvm.RoadKit.acmp (g := mkF m pc Ls (y :: x :: rest)) X hx rfl h1 h2 (pc0 := pc) (pc' := pc') rfl (hb hby hd) rfl hq ho hp k) k
theorem Gol.ldcInt (X : Stand p l e R s m args below meth c T locs cells slots) (hx : p.tables.exec = Jvm.exec) (hby : c.code = code) (hZ : Z.Warmed39 s.vm) {own : String} (hown : s.vm.findClass own = some m.cls) {index : Nat} {v : Int32} (hd : decode code pc = .ok (.ldc index, 2)) (hp : pc + 2 = pc') (w : (Cond.constant own index v).before a0 Z = true) (k : GolF p e below Fe Qf kc ks T m pc' Ls (.int v :: rest)) : GolF p e below Fe Qf kc ks T m pc Ls rest := by
  subst hp
  exact Gol.step (fun _ k => X.ldcInt hx hown (mvT hZ w) (g := mkF m pc Ls rest) rfl (hb hby hd) _ k) k
theorem Gol.ldcwInt (X : Stand p l e R s m args below meth c T locs cells slots) (hx : p.tables.exec = Jvm.exec) (hby : c.code = code) (hZ : Z.Warmed39 s.vm) {own : String} (hown : s.vm.findClass own = some m.cls) {index : Nat} {v : Int32} (hd : decode code pc = .ok (.ldc_w index, 3)) (hp : pc + 3 = pc') (w : (Cond.constant own index v).before a0 Z = true) (k : GolF p e below Fe Qf kc ks T m pc' Ls (.int v :: rest)) : GolF p e below Fe Qf kc ks T m pc Ls rest := by
  subst hp
  exact Gol.step (fun _ k => X.ldcwInt hx hown (mvT hZ w) (g := mkF m pc Ls rest) rfl (hb hby hd) _ k) k
theorem Gol.ldc2Long (X : Stand p l e R s m args below meth c T locs cells slots) (hx : p.tables.exec = Jvm.exec) (hby : c.code = code) (hZ : Z.Warmed39 s.vm) {own : String} (hown : s.vm.findClass own = some m.cls) {index : Nat} {v : Int64} (hd : decode code pc = .ok (.ldc2_w index, 3)) (hp : pc + 3 = pc') (w : (Cond.constantLong own index v).before a0 Z = true) (k : GolF p e below Fe Qf kc ks T m pc' Ls (.long v :: rest)) : GolF p e below Fe Qf kc ks T m pc Ls rest := by
  subst hp
  exact Gol.step (fun _ k => X.ldc2Long hx hown (mvT hZ w) (g := mkF m pc Ls rest) rfl (hb hby hd) _ k) k
theorem Gol.iaload (X : Stand p l e R s m args below meth c T locs cells slots) (hx : p.tables.exec = Jvm.exec) (hby : c.code = code) (hZ : Z.Warmed39 s.vm) (eT : T.heap = h) {a : Addr} {ka : ClassId} {z j : Int32} {vs : List Value} {dv : Value} {v : Int32} (A : Arv Z h a ka .int z vs dv) (hd : decode code pc = .ok (.iaload, 1)) (hp : pc + 1 = pc') (hj : ¬ j < 0 ∧ j < z) (hv : vs.getD j.toNatClampNeg dv = .int v) (k : GolF p e below Fe Qf kc ks T m pc' Ls (.int v :: rest)) : GolF p e below Fe Qf kc ks T m pc Ls (.int j :: .ref a :: rest) := by
  subst hp
  obtain ⟨cl, Ar, -, S, -, Hs, -⟩ := A
  have hin := inb_of S hj
  exact Gol.step (fun _ k => X.iaload hx (by rw [eT]; exact Ar.1) (State.isArrayOf_alike hZ.alike Ar.2.1) Ar.2.2 hin (Has.at Hs hin hv) (g := mkF m pc Ls (.int j :: .ref a :: rest)) rfl rfl (hb hby hd) _ k) k
theorem Gol.baload (X : Stand p l e R s m args below meth c T locs cells slots) (hx : p.tables.exec = Jvm.exec) (hby : c.code = code) (hZ : Z.Warmed39 s.vm) (eT : T.heap = h) {a : Addr} {ka : ClassId} {z j : Int32} {vs : List Value} {dv : Value} {v : Int32} (A : Arv Z h a ka .byte z vs dv) (hd : decode code pc = .ok (.baload, 1)) (hp : pc + 1 = pc') (hj : ¬ j < 0 ∧ j < z) (hv : vs.getD j.toNatClampNeg dv = .int v) (k : GolF p e below Fe Qf kc ks T m pc' Ls (.int v :: rest)) : GolF p e below Fe Qf kc ks T m pc Ls (.int j :: .ref a :: rest) := by
  subst hp
  obtain ⟨cl, Ar, -, S, -, Hs, -⟩ := A
  have hin := inb_of S hj
  exact Gol.step (fun _ k => X.baloadBytes hx (by rw [eT]; exact Ar.1) (State.isArrayOf_alike hZ.alike Ar.2.1) Ar.2.2 hin (Has.at Hs hin hv) (g := mkF m pc Ls (.int j :: .ref a :: rest)) rfl rfl (hb hby hd) _ k) k
theorem Gol.caload (X : Stand p l e R s m args below meth c T locs cells slots) (hx : p.tables.exec = Jvm.exec) (hby : c.code = code) (hZ : Z.Warmed39 s.vm) (eT : T.heap = h) {a : Addr} {ka : ClassId} {z j : Int32} {vs : List Value} {dv : Value} {v : Int32} (A : Arv Z h a ka .char z vs dv) (hd : decode code pc = .ok (.caload, 1)) (hp : pc + 1 = pc') (hj : ¬ j < 0 ∧ j < z) (hv : vs.getD j.toNatClampNeg dv = .int v) (k : GolF p e below Fe Qf kc ks T m pc' Ls (.int v :: rest)) : GolF p e below Fe Qf kc ks T m pc Ls (.int j :: .ref a :: rest) := by
  subst hp
  obtain ⟨cl, Ar, -, S, -, Hs, -⟩ := A
  have hin := inb_of S hj
  exact Gol.step (fun _ k => X.caload hx (by rw [eT]; exact Ar.1) (State.isArrayOf_alike hZ.alike Ar.2.1) Ar.2.2 hin (Has.at Hs hin hv) (g := mkF m pc Ls (.int j :: .ref a :: rest)) rfl rfl (hb hby hd) _ k) k
theorem Gol.laload (X : Stand p l e R s m args below meth c T locs cells slots) (hx : p.tables.exec = Jvm.exec) (hby : c.code = code) (hZ : Z.Warmed39 s.vm) (eT : T.heap = h) {a : Addr} {ka : ClassId} {z j : Int32} {vs : List Value} {dv : Value} {v : Int64} (A : Arv Z h a ka .long z vs dv) (hd : decode code pc = .ok (.laload, 1)) (hp : pc + 1 = pc') (hj : ¬ j < 0 ∧ j < z) (hv : vs.getD j.toNatClampNeg dv = .long v) (k : GolF p e below Fe Qf kc ks T m pc' Ls (.long v :: rest)) : GolF p e below Fe Qf kc ks T m pc Ls (.int j :: .ref a :: rest) := by
  subst hp
  obtain ⟨cl, Ar, -, S, -, Hs, -⟩ := A
  have hin := inb_of S hj
  exact Gol.step (fun _ k => X.laload hx (by rw [eT]; exact Ar.1) (State.isArrayOf_alike hZ.alike Ar.2.1) Ar.2.2 hin (Has.at Hs hin hv) (g := mkF m pc Ls (.int j :: .ref a :: rest)) rfl rfl (hb hby hd) _ k) k
theorem Gol.aaload (X : Stand p l e R s m args below meth c T locs cells slots) (hx : p.tables.exec = Jvm.exec) (hby : c.code = code) (hZ : Z.Warmed39 s.vm) (eT : T.heap = h) {a : Addr} {ka : ClassId} {ty : FieldType} {z j : Int32} {vs : List Value} {dv v : Value} (A : Arv Z h a ka ty z vs dv) (hd : decode code pc = .ok (.aaload, 1)) (hp : pc + 1 = pc') (ht : ty.isReference = true) (hj : ¬ j < 0 ∧ j < z) (hv : vs.getD j.toNatClampNeg dv = v) (k : GolF p e below Fe Qf kc ks T m pc' Ls (v :: rest)) : GolF p e below Fe Qf kc ks T m pc Ls (.int j :: .ref a :: rest) := by
  subst hp
  obtain ⟨cl, Ar, -, S, -, Hs, -⟩ := A
  have hin := inb_of S hj
  exact Gol.step (fun _ k => X.aaload hx (by rw [eT]; exact Ar.1) (State.isArrayOf_alike hZ.alike Ar.2.1) ht Ar.2.2 hin (Has.at Hs hin hv) (g := mkF m pc Ls (.int j :: .ref a :: rest)) rfl rfl (hb hby hd) _ k) k
theorem Gol.alen (X : Stand p l e R s m args below meth c T locs cells slots) (hx : p.tables.exec = Jvm.exec) (hby : c.code = code) (hZ : Z.Warmed39 s.vm) (eT : T.heap = h) {a : Addr} {ka : ClassId} {ty : FieldType} {z : Int32} {vs : List Value} {dv : Value} (A : Arv Z h a ka ty z vs dv) (hd : decode code pc = .ok (.arraylength, 1)) (hp : pc + 1 = pc') (k : GolF p e below Fe Qf kc ks T m pc' Ls (.int z :: rest)) : GolF p e below Fe Qf kc ks T m pc Ls (.ref a :: rest) := by
  subst hp
  obtain ⟨cl, Ar, -, S, M, -, -⟩ := A
  rw [← len_of S M] at k
  exact Gol.step (fun _ k => X.arraylength hx (by rw [eT]; exact Ar.1) (State.isArrayOf_alike hZ.alike Ar.2.1) (g := mkF m pc Ls (.ref a :: rest)) rfl rfl (hb hby hd) _ k) k
theorem Gol.iastore (X : Stand p l e R s m args below meth c T locs cells slots) (hx : p.tables.exec = Jvm.exec) (hby : c.code = code) (hZ : Z.Warmed39 s.vm) (eT : T.heap = h) {a : Addr} {ka : ClassId} {z j : Int32} {x : Int32} {vs : List Value} {dv : Value} (A : Arv Z h a ka .int z vs dv) (hd : decode code pc = .ok (.iastore, 1)) (hp : pc + 1 = pc') (hj : ¬ j < 0 ∧ j < z) (i : Nat) (hi : j.toNatClampNeg = i) (hl : i < vs.length)
    (k : ∀ (T' : State) (h' : Heap), Stand p l e R s m args below meth c T' (locs ++ [⟨a, j.toNatClampNeg⟩]) cells slots → T'.heap = h' → Wr h h' a j.toNatClampNeg (.int x) → Arv Z h' a ka .int z (vs.set i (.int x)) dv → GolF p e below Fe Qf kc ks T' m pc' Ls rest) : GolF p e below Fe Qf kc ks T m pc Ls (.int x :: .int j :: .ref a :: rest) := by
  subst hp
  obtain ⟨cl, Ar, q, S, M, Hs, G⟩ := A
  have hin := inb_of S hj
  obtain ⟨T', h', X', e', W, st⟩ := stI X hx hZ eT Ar (j := j) hin (g := mkF m pc Ls (.int x :: .int j :: .ref a :: rest)) rfl rfl (hb hby hd)
  exact Gol.step st (k T' h' X' e' W (Arv.set Ar q S M Hs G rfl W i hi hl))
theorem Gol.lastore (X : Stand p l e R s m args below meth c T locs cells slots) (hx : p.tables.exec = Jvm.exec) (hby : c.code = code) (hZ : Z.Warmed39 s.vm) (eT : T.heap = h) {a : Addr} {ka : ClassId} {z j : Int32} {x : Int64} {vs : List Value} {dv : Value} (A : Arv Z h a ka .long z vs dv) (hd : decode code pc = .ok (.lastore, 1)) (hp : pc + 1 = pc') (hj : ¬ j < 0 ∧ j < z) (i : Nat) (hi : j.toNatClampNeg = i) (hl : i < vs.length)
    (k : ∀ (T' : State) (h' : Heap), Stand p l e R s m args below meth c T' (locs ++ [⟨a, j.toNatClampNeg⟩]) cells slots → T'.heap = h' → Wr h h' a j.toNatClampNeg (.long x) → Arv Z h' a ka .long z (vs.set i (.long x)) dv → GolF p e below Fe Qf kc ks T' m pc' Ls rest) : GolF p e below Fe Qf kc ks T m pc Ls (.long x :: .int j :: .ref a :: rest) := by
  subst hp
  obtain ⟨cl, Ar, q, S, M, Hs, G⟩ := A
  have hin := inb_of S hj
  obtain ⟨T', h', X', e', W, st⟩ := stJ X hx hZ eT Ar (j := j) hin (g := mkF m pc Ls (.long x :: .int j :: .ref a :: rest)) rfl rfl (hb hby hd)
  exact Gol.step st (k T' h' X' e' W (Arv.set Ar q S M Hs G rfl W i hi hl))
theorem Gol.bastore (X : Stand p l e R s m args below meth c T locs cells slots) (hx : p.tables.exec = Jvm.exec) (hby : c.code = code) (hZ : Z.Warmed39 s.vm) (eT : T.heap = h) {a : Addr} {ka : ClassId} {z j : Int32} {x : Int32} {vs : List Value} {dv : Value} (A : Arv Z h a ka .byte z vs dv) (hd : decode code pc = .ok (.bastore, 1)) (hp : pc + 1 = pc') (hj : ¬ j < 0 ∧ j < z) (i : Nat) (hi : j.toNatClampNeg = i) (hl : i < vs.length)
    (k : ∀ (T' : State) (h' : Heap), Stand p l e R s m args below meth c T' (locs ++ [⟨a, j.toNatClampNeg⟩]) cells slots → T'.heap = h' → Wr h h' a j.toNatClampNeg (.int (nar .byte x)) → Arv Z h' a ka .byte z (vs.set i (.int (nar .byte x))) dv → GolF p e below Fe Qf kc ks T' m pc' Ls rest) : GolF p e below Fe Qf kc ks T m pc Ls (.int x :: .int j :: .ref a :: rest) := by
  subst hp
  obtain ⟨cl, Ar, q, S, M, Hs, G⟩ := A
  have hin := inb_of S hj
  obtain ⟨T', h', X', e', W, st⟩ := stB X hx hZ eT Ar (j := j) hin (g := mkF m pc Ls (.int x :: .int j :: .ref a :: rest)) rfl rfl (hb hby hd)
  exact Gol.step st (k T' h' X' e' W (Arv.set Ar q S M Hs G (fits_nar_byte _) W i hi hl))
theorem Gol.castore (X : Stand p l e R s m args below meth c T locs cells slots) (hx : p.tables.exec = Jvm.exec) (hby : c.code = code) (hZ : Z.Warmed39 s.vm) (eT : T.heap = h) {a : Addr} {ka : ClassId} {z j : Int32} {x : Int32} {vs : List Value} {dv : Value} (A : Arv Z h a ka .char z vs dv) (hd : decode code pc = .ok (.castore, 1)) (hp : pc + 1 = pc') (hj : ¬ j < 0 ∧ j < z) (i : Nat) (hi : j.toNatClampNeg = i) (hl : i < vs.length)
    (k : ∀ (T' : State) (h' : Heap), Stand p l e R s m args below meth c T' (locs ++ [⟨a, j.toNatClampNeg⟩]) cells slots → T'.heap = h' → Wr h h' a j.toNatClampNeg (.int (nar .char x)) → Arv Z h' a ka .char z (vs.set i (.int (nar .char x))) dv → GolF p e below Fe Qf kc ks T' m pc' Ls rest) : GolF p e below Fe Qf kc ks T m pc Ls (.int x :: .int j :: .ref a :: rest) := by
  subst hp
  obtain ⟨cl, Ar, q, S, M, Hs, G⟩ := A
  have hin := inb_of S hj
  obtain ⟨T', h', X', e', W, st⟩ := stC X hx hZ eT Ar (j := j) hin (g := mkF m pc Ls (.int x :: .int j :: .ref a :: rest)) rfl rfl (hb hby hd)
  exact Gol.step st (k T' h' X' e' W (Arv.set Ar q S M Hs G (fits_nar_char _) W i hi hl))
theorem Gol.aastore (X : Stand p l e R s m args below meth c T locs cells slots) (hx : p.tables.exec = Jvm.exec) (hby : c.code = code) (hZ : Z.Warmed39 s.vm) (eT : T.heap = h) {a : Addr} {ka : ClassId} {z j : Int32} {x : Value} {ty : FieldType} {vs : List Value} {dv : Value} (A : Arv Z h a ka ty z vs dv) (hd : decode code pc = .ok (.aastore, 1)) (hp : pc + 1 = pc') (hj : ¬ j < 0 ∧ j < z) (i : Nat) (hi : j.toNatClampNeg = i) (hl : i < vs.length) (ht : ty.isReference = true) (hf : fits ty x = true) (so : ∀ cl : Cell, Arr Z h a cl ty → cl.cls = ka → Sto Z h a x)
    (k : ∀ (T' : State) (h' : Heap), Stand p l e R s m args below meth c T' (locs ++ [⟨a, j.toNatClampNeg⟩]) cells slots → T'.heap = h' → Wr h h' a j.toNatClampNeg x → Arv Z h' a ka ty z (vs.set i x) dv → GolF p e below Fe Qf kc ks T' m pc' Ls rest) : GolF p e below Fe Qf kc ks T m pc Ls (x :: .int j :: .ref a :: rest) := by
  subst hp
  obtain ⟨cl, Ar, q, S, M, Hs, G⟩ := A
  have hin := inb_of S hj
  obtain ⟨T', h', X', e', W, st⟩ := stR X hx hZ eT Ar (j := j) hin ht (so cl Ar q) (g := mkF m pc Ls (x :: .int j :: .ref a :: rest)) rfl rfl (hb hby hd)
  exact Gol.step st (k T' h' X' e' W (Arv.set Ar q S M Hs G hf W i hi hl))
theorem Gol.newarr (X : Stand p l e R s m args below meth c T locs cells slots) (hx : p.tables.exec = Jvm.exec) (hby : c.code = code) (hZ : Z.Warmed39 s.vm) {aty : ArrayType} (w : (Cond.arrayClass (newarray.typeOf aty)).before a0 Z = true) (eT : T.heap = h) {n : Int32} (cap : Nat) (hd : decode code pc = .ok (.newarray aty, 2)) (hp : pc + 2 = pc') (hn : ¬ n < 0) (hcap : n.toNatClampNeg ≤ cap) (hb8 : cap * 8 ≤ 536870912) (hc : cells + 1 ≤ R.cells) (hl : slots + cap ≤ R.slots)
    (k : ∀ (T' : State) (h' : Heap) (ka : ClassId) (b : Addr), b = h.size → Stand p l e R s m args below meth c T' locs (cells + 1) (slots + cap) → T'.heap = h' → Ext h h' → Arv Z h' b ka (newarray.typeOf aty) n [] (defaultValue (newarray.typeOf aty)) → GolF p e below Fe Qf kc ks T' m pc' Ls (.ref b :: rest)) : GolF p e below Fe Qf kc ks T m pc Ls (.int n :: rest) := by
  subst hp
  obtain ⟨T', h', ka, X', e', E, A, st⟩ := newP X hx hZ w eT (g := mkF m pc Ls (.int n :: rest)) rfl (hb hby hd) rfl hn (cap := cap) hcap hb8 hc hl
  exact Gol.step st (k T' h' ka _ rfl X' e' E (Arv.new A hn))
theorem Gol.newref (X : Stand p l e R s m args below meth c T locs cells slots) (hx : p.tables.exec = Jvm.exec) (hby : c.code = code) (hZ : Z.Warmed39 s.vm) {own : String} (hown : s.vm.findClass own = some m.cls) {C : String} {index : Nat} (w1 : (Cond.classLink own index C).before a0 Z = true) (w2 : (Cond.arrayOver (.object C)).before a0 Z = true) (eT : T.heap = h) {n : Int32} (cap : Nat) (hd : decode code pc = .ok (.anewarray index, 3)) (hp : pc + 3 = pc') (hn : ¬ n < 0) (hcap : n.toNatClampNeg ≤ cap) (hb8 : cap * 8 ≤ 536870912) (hc : cells + 1 ≤ R.cells) (hl : slots + cap ≤ R.slots)
    (k : ∀ (T' : State) (h' : Heap) (ka : ClassId) (b : Addr), b = h.size → Stand p l e R s m args below meth c T' locs (cells + 1) (slots + cap) → T'.heap = h' → Ext h h' → Arv Z h' b ka (.object C) n [] .null → Ovr Z ka C → GolF p e below Fe Qf kc ks T' m pc' Ls (.ref b :: rest)) : GolF p e below Fe Qf kc ks T m pc Ls (.int n :: rest) := by
  subst hp
  obtain ⟨T', h', ka, X', e', E, A, O, st⟩ := newR X hx hZ hown w1 w2 eT (g := mkF m pc Ls (.int n :: rest)) rfl (hb hby hd) rfl hn (cap := cap) hcap hb8 hc hl
  exact Gol.step st (k T' h' ka _ rfl X' e' E (Arv.new A hn) O)
theorem Gol.getF (X : Stand p l e R s m args below meth c T locs cells slots) (hx : p.tables.exec = Jvm.exec) (hby : c.code = code) (hZ : Z.Warmed39 s.vm) {own : String} (hown : s.vm.findClass own = some m.cls) {R0 O n d host : String} {index : Nat} (w : (Cond.fieldLink own index R0 n d).before a0 Z = true ∨ (Cond.fieldLinkNest own index R0 n d host).before a0 Z = true) (via : Via Z R0 O n d) (eT : T.heap = h) {a : Addr} {v : Value} (F : Fld Z h a O n d v) (hd : decode code pc = .ok (.getfield index, 3)) (hp : pc + 3 = pc')
    (k : ∀ T' : State, Stand p l e R s m args below meth c T' locs cells slots → T'.heap = h → GolF p e below Fe Qf kc ks T' m pc' Ls (v :: rest)) : GolF p e below Fe Qf kc ks T m pc Ls (.ref a :: rest) := by
  subst hp
  obtain ⟨T', X', e', st⟩ := getF X hx hZ hown (host := host) w via eT F (g := mkF m pc Ls (.ref a :: rest)) rfl rfl (hb hby hd)
  exact Gol.step st (k T' X' e')
theorem Gol.getS (X : Stand p l e R s m args below meth c T locs cells slots) (hx : p.tables.exec = Jvm.exec) (hby : c.code = code) (hZ : Z.Warmed39 s.vm) {own : String} (hown : s.vm.findClass own = some m.cls) {R0 O n d host : String} {index : Nat} (w : (Cond.fieldLink own index R0 n d).before a0 Z = true ∨ (Cond.fieldLinkNest own index R0 n d host).before a0 Z = true) (via : Via Z R0 O n d) (eT : T.heap = h) {v : Value} (F : Sta Z h O n d v) (hd : decode code pc = .ok (.getstatic index, 3)) (hp : pc + 3 = pc')
    (k : ∀ T' : State, Stand p l e R s m args below meth c T' locs cells slots → T'.heap = h → GolF p e below Fe Qf kc ks T' m pc' Ls (v :: rest)) : GolF p e below Fe Qf kc ks T m pc Ls rest := by
  subst hp
  obtain ⟨T', X', e', st⟩ := getS2 X hx hZ hown (host := host) w via eT F (g := mkF m pc Ls rest) rfl (hb hby hd)
  exact Gol.step st (k T' X' e')
theorem Gol.putF (X : Stand p l e R s m args below meth c T locs cells slots) (hx : p.tables.exec = Jvm.exec) (hby : c.code = code) (hZ : Z.Warmed39 s.vm) {own : String} (hown : s.vm.findClass own = some m.cls) {R0 O n d host : String} {index : Nat} (w : (Cond.fieldLink own index R0 n d).before a0 Z = true ∨ (Cond.fieldLinkNest own index R0 n d host).before a0 Z = true) (via : Via Z R0 O n d) (eT : T.heap = h) {C : String} {kk : Nat} {ty : FieldType} {a : Addr} {v old : Value} (F : Fld Z h a O n d old) (E : Exa Z h a C) (L : (Cond.lays C O n d).before a0 Z = true ∨ ((Cond.laysFinal C O n d).before a0 Z = true ∧ own = O ∧ meth.name = "<init>")) (wi : (Cond.instantiable C kk).before a0 Z = true) (hty : parseFieldDescriptor d = some ty) (hn : narrow ty v = v) (hf : fits ty v = true) (hd : decode code pc = .ok (.putfield index, 3)) (hp : pc + 3 = pc')
    (k : ∀ (T' : State) (h' : Heap), Stand p l e R s m args below meth c T' (locs ++ [⟨a, slotOf Z O n d⟩]) cells slots → T'.heap = h' → Wr h h' a (slotOf Z O n d) v → GolF p e below Fe Qf kc ks T' m pc' Ls rest) : GolF p e below Fe Qf kc ks T m pc Ls (v :: .ref a :: rest) := by
  subst hp
  obtain ⟨T', h', X', e', W, st⟩ := putF X hx hZ hown (host := host) w via eT F E L wi hty hn hf (g := mkF m pc Ls (v :: .ref a :: rest)) rfl rfl (hb hby hd)
  exact Gol.step st (k T' h' X' e' W)
theorem Gol.putFN (X : Stand p l e R s m args below meth c T locs cells slots) (hx : p.tables.exec = Jvm.exec) (hby : c.code = code) (hZ : Z.Warmed39 s.vm) {own : String} (hown : s.vm.findClass own = some m.cls) {R0 O n d : String} {index : Nat} (w : (Cond.fieldLink own index R0 n d).before a0 Z = true) (via : Via Z R0 O n d) (eT : T.heap = h) {C : String} {kk : Nat} {ty : FieldType} {a : Addr} {v v' old : Value} (F : Fld Z h a O n d old) (E : Exa Z h a C) (L : (Cond.lays C O n d).before a0 Z = true ∨ ((Cond.laysFinal C O n d).before a0 Z = true ∧ own = O ∧ meth.name = "<init>")) (wi : (Cond.instantiable C kk).before a0 Z = true) (hty : parseFieldDescriptor d = some ty) (hn : narrow ty v = v') (hf : fits ty v' = true) (hd : decode code pc = .ok (.putfield index, 3)) (hp : pc + 3 = pc')
    (k : ∀ (T' : State) (h' : Heap), Stand p l e R s m args below meth c T' (locs ++ [⟨a, slotOf Z O n d⟩]) cells slots → T'.heap = h' → Wr h h' a (slotOf Z O n d) v' → GolF p e below Fe Qf kc ks T' m pc' Ls rest) : GolF p e below Fe Qf kc ks T m pc Ls (v :: .ref a :: rest) := by
  subst hp
  obtain ⟨T', h', X', e', W, st⟩ := putFN X hx hZ hown w via eT F E L wi hty hn hf (g := mkF m pc Ls (v :: .ref a :: rest)) rfl rfl (hb hby hd)
  exact Gol.step st (k T' h' X' e' W)
theorem Gol.newO (X : Stand p l e R s m args below meth c T locs cells slots) (hx : p.tables.exec = Jvm.exec) (hby : c.code = code) (hZ : Z.Warmed39 s.vm) {own : String} (hown : s.vm.findClass own = some m.cls) {C : String} {index n : Nat} (w : (Cond.classLink own index C).before a0 Z = true) (wi : (Cond.instantiable C n).before a0 Z = true) (wz : (Cond.initialized C).before a0 Z = true) (eT : T.heap = h) (hd : decode code pc = .ok (.new index, 3)) (hp : pc + 3 = pc') (hc : cells + 1 ≤ R.cells) (hl : slots + n ≤ R.slots)
    (k : ∀ (T' : State) (h' : Heap) (b : Addr), b = h.size → Stand p l e R s m args below meth c T' locs (cells + 1) (slots + n) → T'.heap = h' → Ext h h' → Exa Z h' b C → (∀ {O nm d : String} {ty : FieldType}, Laid Z a0 C O nm d → parseFieldDescriptor d = some ty → Fld Z h' b O nm d (defaultValue ty)) → GolF p e below Fe Qf kc ks T' m pc' Ls (.ref b :: rest)) : GolF p e below Fe Qf kc ks T m pc Ls rest := by
  subst hp
  obtain ⟨T', h', X', e', E, A, D, -, st⟩ := newO X hx hZ hown w wi wz eT (g := mkF m pc Ls rest) rfl (hb hby hd) hc hl
  exact Gol.step st (k T' h' _ rfl X' e' E A D)
theorem Gol.initO (X : Stand p l e R s m args below meth c T locs cells slots) (hx : p.tables.exec = Jvm.exec) (hby : c.code = code) (hZ : Z.Warmed39 s.vm) {own : String} (hown : s.vm.findClass own = some m.cls) {index : Nat} (w1 : (Cond.methodLink own index Lib.objectInit).before a0 Z = true) (w2 : (Cond.instanceMethod Lib.objectInit).before a0 Z = true) (w3 : (Cond.code Lib.objectInit ⟨#[0xb1]⟩ 1 none).before a0 Z = true) (eT : T.heap = h) (W : Nat) {a : Addr} (hd : decode code pc = .ok (.invokespecial index, 3)) (hp : pc + 3 = pc') (hsz : Ls.size = c.maxLocals) (hf : 1 ≤ R.frames) (hW : (rest.map fun v => v.category).sum ≤ W) (hl : W + 12 ≤ R.locals)
    (k : ∀ T' : State, Stand p l e R s m args below meth c T' locs cells slots → T'.heap = h → GolF p e below Fe Qf kc ks T' m pc' Ls rest) : GolF p e below Fe Qf kc ks T m pc Ls (.ref a :: rest) := by
  subst hp
  obtain ⟨T', X', e', st⟩ := initO X hx hZ hown w1 w2 w3 eT (g := mkF m pc Ls (.ref a :: rest)) rfl hsz rfl (hb hby hd) hf (W := W) (by show 2 * 0 + _ ≤ _; rw [Nat.mul_zero, Nat.zero_add]; exact hW) hl
  exact Gol.step st (k T' X' e')
theorem Gol.castY (X : Stand p l e R s m args below meth c T locs cells slots) (hx : p.tables.exec = Jvm.exec) (hby : c.code = code) (hZ : Z.Warmed39 s.vm) {own : String} (hown : s.vm.findClass own = some m.cls) {K : String} {index : Nat} (w : (Cond.classLink own index K).before a0 Z = true) (eT : T.heap = h) {a : Addr} (F : Ins Z h a K true) (hd : decode code pc = .ok (.checkcast index, 3)) (hp : pc + 3 = pc')
    (k : ∀ T' : State, Stand p l e R s m args below meth c T' locs cells slots → T'.heap = h → GolF p e below Fe Qf kc ks T' m pc' Ls (.ref a :: rest)) : GolF p e below Fe Qf kc ks T m pc Ls (.ref a :: rest) := by
  subst hp
  obtain ⟨T', X', e', st⟩ := castY X hx hZ hown w eT F (g := mkF m pc Ls (.ref a :: rest)) rfl rfl (hb hby hd)
  exact Gol.step st (k T' X' e')
theorem Gol.instY (X : Stand p l e R s m args below meth c T locs cells slots) (hx : p.tables.exec = Jvm.exec) (hby : c.code = code) (hZ : Z.Warmed39 s.vm) {own : String} (hown : s.vm.findClass own = some m.cls) {K : String} {index : Nat} (w : (Cond.classLink own index K).before a0 Z = true) (eT : T.heap = h) {a : Addr} (F : Ins Z h a K true) (hd : decode code pc = .ok (.instanceof index, 3)) (hp : pc + 3 = pc')
    (k : ∀ T' : State, Stand p l e R s m args below meth c T' locs cells slots → T'.heap = h → GolF p e below Fe Qf kc ks T' m pc' Ls (.int 1 :: rest)) : GolF p e below Fe Qf kc ks T m pc Ls (.ref a :: rest) := by
  subst hp
  obtain ⟨T', X', e', st⟩ := instY X hx hZ hown w eT F (g := mkF m pc Ls (.ref a :: rest)) rfl rfl (hb hby hd)
  exact Gol.step st (k T' X' e')
theorem Gol.callS (X : Stand p l e R s m args below meth c T locs cells slots) (hx : p.tables.exec = Jvm.exec) (hby : c.code = code) (hZ : Z.Warmed39 s.vm) {own : String} (hown : s.vm.findClass own = some m.cls) {index : Nat} {y : MethodName} {bytes : ByteArray} {maxL : Nat} {ret : Option FieldType} {rm : Room} {Q : Option Value → Heap → List Loc → Prop} (W : Nat) (argsL : List Value) (wl : (Cond.methodLink own index y).before a0 Z = true) (ws : (Cond.static y).before a0 Z = true) (wz : (Cond.initialized y.cls).before a0 Z = true) (wc : (Cond.code y bytes maxL ret).before a0 Z = true) (hy : y.cls ≠ "java/lang/invoke/MethodHandle" ∧ y.cls ≠ "java/lang/invoke/VarHandle") (hM : MetFree l y (head1 [Cond.code y bytes maxL ret] rm) (fun aa U => aa = argsL.toArray ∧ Z.Warmed39 U.vm ∧ U.heap = h) (fun _ _ _ _ _ => True) (fun _ U o U' => ∃ v L, o = .returned v ∧ Q v U'.heap L ∧ FrameEnd U o U' L rm.cells rm.slots)) (hf : rm.frames + 1 ≤ R.frames) (hl : W + (maxL + 11) + rm.locals ≤ R.locals) (eT : T.heap = h) {st : List Value} (hsz : Ls.size = c.maxLocals) (hW : (rest.map fun v => v.category).sum ≤ W) (hc : cells + rm.cells ≤ R.cells) (hs : slots + rm.slots ≤ R.slots) (hlen : ∀ sig, parseMethodDescriptor y.desc = some sig → argsL.length = sig.parameters.length) (hst : st = argsL.reverse ++ rest) (hd : decode code pc = .ok (.invokestatic index, 3)) (hp : pc + 3 = pc')
    (k : ∀ (T' : State) (v : Option Value) (L : List Loc), Stand p l e R s m args below meth c T' (locs ++ L) (cells + rm.cells) (slots + rm.slots) → Q v T'.heap L → GolF p e below Fe Qf kc ks T' m pc' Ls (v.toList ++ rest)) : GolF p e below Fe Qf kc ks T m pc Ls st := by
  subst hp
  obtain ⟨v, _, ⟨T', L1, k1, n1⟩, -, X', ⟨Lc, hQ, l1, y1, z1⟩, st1⟩ := Jvm.LawKit.callS X hx hown (mvT hZ wl) (mvT hZ ws) (mvT hZ wz) (mvT hZ wc) hy (backOf (W := W) hM hZ wc wz hf hl) (g := mkF m pc Ls st) rfl hsz hlen hst (by show 2 * 0 + _ ≤ _; rw [Nat.mul_zero, Nat.zero_add]; exact hW) (hb hby hd) (fun _ _ => ⟨rfl, eT, hc, hs⟩)
  dsimp only [Pt.U, Pt.locs, Pt.cells, Pt.slots] at X' l1 y1 z1 st1 hQ
  subst l1 y1 z1
  exact Gol.step st1 (k T' v Lc X' hQ)
theorem Gol.callI (X : Stand p l e R s m args below meth c T locs cells slots) (hx : p.tables.exec = Jvm.exec) (hby : c.code = code) (hZ : Z.Warmed39 s.vm) {own : String} (hown : s.vm.findClass own = some m.cls) {index : Nat} {y : MethodName} {bytes : ByteArray} {maxL : Nat} {ret : Option FieldType} {rm : Room} {Q : Option Value → Heap → List Loc → Prop} (W : Nat) (argsL : List Value) {a : Addr} (wl : (Cond.methodLink own index y).before a0 Z = true) (wi : (Cond.instanceMethod y).before a0 Z = true) (wz : (Cond.initialized y.cls).before a0 Z = true) (hrt : ret = none) (wc : (Cond.code y bytes maxL ret).before a0 Z = true) (hn : y.name = "<init>") (hy : y.cls ≠ "java/lang/invoke/MethodHandle" ∧ y.cls ≠ "java/lang/invoke/VarHandle") (hM : MetFree l y (head1 [Cond.code y bytes maxL ret] rm) (fun aa U => aa = (.ref a :: argsL).toArray ∧ Z.Warmed39 U.vm ∧ U.heap = h) (fun _ _ _ _ _ => True) (fun _ U o U' => ∃ v L, o = .returned v ∧ Q v U'.heap L ∧ FrameEnd U o U' L rm.cells rm.slots)) (hf : rm.frames + 1 ≤ R.frames) (hl : W + (maxL + 11) + rm.locals ≤ R.locals) (eT : T.heap = h) {st : List Value} (hsz : Ls.size = c.maxLocals) (hW : (rest.map fun v => v.category).sum ≤ W) (hc : cells + rm.cells ≤ R.cells) (hs : slots + rm.slots ≤ R.slots) (hlen : ∀ sig, parseMethodDescriptor y.desc = some sig → argsL.length = sig.parameters.length) (hst : st = argsL.reverse ++ .ref a :: rest) (hd : decode code pc = .ok (.invokespecial index, 3)) (hp : pc + 3 = pc')
    (k : ∀ (T' : State) (v : Option Value) (L : List Loc), Stand p l e R s m args below meth c T' (locs ++ L) (cells + rm.cells) (slots + rm.slots) → Q v T'.heap L → GolF p e below Fe Qf kc ks T' m pc' Ls (v.toList ++ rest)) : GolF p e below Fe Qf kc ks T m pc Ls st := by
  subst hp hrt
  obtain ⟨v, _, ⟨T', L1, k1, n1⟩, -, X', ⟨Lc, hQ, l1, y1, z1⟩, st1⟩ := X.specialBack hx hn hown (mvT hZ wl) (mvT hZ wi) (mvT hZ wc) hy (backOf (W := W) hM hZ wc wz hf hl) (g := mkF m pc Ls st) rfl hsz (Steps.refl _) (a := a) hlen hst (by show 2 * 0 + _ ≤ _; rw [Nat.mul_zero, Nat.zero_add]; exact hW) (hb hby hd) (fun _ _ => ⟨rfl, eT, hc, hs⟩)
  dsimp only [Pt.U, Pt.locs, Pt.cells, Pt.slots] at X' l1 y1 z1 st1 hQ
  subst l1 y1 z1
  exact Gol.step (fun _ k => st1.trans k) (k T' v Lc X' hQ)
theorem Gol.callV (X : Stand p l e R s m args below meth c T locs cells slots) (hx : p.tables.exec = Jvm.exec) (hby : c.code = code) (hZ : Z.Warmed39 s.vm) {own : String} (hown : s.vm.findClass own = some m.cls) {index : Nat} {y z : MethodName} {C : String} {bytes : ByteArray} {maxL : Nat} {ret : Option FieldType} {rm : Room} {Q : Option Value → Heap → List Loc → Prop} (W : Nat) (argsL : List Value) {a : Addr} (wl : (Cond.methodLink own index y).before a0 Z = true) (wd : (Cond.declares y).before a0 Z = true) (nf : NotFace s y) (wse : (Cond.selects C y z).before a0 Z = true) (wi : (Cond.instanceMethod z).before a0 Z = true) (wz : (Cond.initialized z.cls).before a0 Z = true) (wc : (Cond.code z bytes maxL ret).before a0 Z = true) (hy : y.cls ≠ "java/lang/invoke/MethodHandle" ∧ y.cls ≠ "java/lang/invoke/VarHandle") (E : Exa Z h a C) (hM : MetFree l z (head1 [Cond.code z bytes maxL ret] rm) (fun aa U => aa = (.ref a :: argsL).toArray ∧ Z.Warmed39 U.vm ∧ U.heap = h) (fun _ _ _ _ _ => True) (fun _ U o U' => ∃ v L, o = .returned v ∧ Q v U'.heap L ∧ FrameEnd U o U' L rm.cells rm.slots)) (hf : rm.frames + 1 ≤ R.frames) (hl : W + (maxL + 11) + rm.locals ≤ R.locals) (eT : T.heap = h) {st : List Value} (hsz : Ls.size = c.maxLocals) (hW : (rest.map fun v => v.category).sum ≤ W) (hc : cells + rm.cells ≤ R.cells) (hs : slots + rm.slots ≤ R.slots) (hlen : ∀ sig, parseMethodDescriptor y.desc = some sig → argsL.length = sig.parameters.length) (hst : st = argsL.reverse ++ .ref a :: rest) (hd : decode code pc = .ok (.invokevirtual index, 3)) (hp : pc + 3 = pc')
    (k : ∀ (T' : State) (v : Option Value) (L : List Loc), Stand p l e R s m args below meth c T' (locs ++ L) (cells + rm.cells) (slots + rm.slots) → Q v T'.heap L → GolF p e below Fe Qf kc ks T' m pc' Ls (v.toList ++ rest)) : GolF p e below Fe Qf kc ks T m pc Ls st := by
  subst hp
  obtain ⟨cq, kq, qa, qb, qc⟩ := isOf hZ eT E
  obtain ⟨v, _, ⟨T', L1, k1, n1⟩, -, X', ⟨Lc, hQ, l1, y1, z1⟩, st1⟩ := X.virtualBack hx hown (mvT hZ wl) (mvT hZ wd) nf (mvT hZ wse) (mvT hZ wi) hy (backOf (W := W) hM hZ wc wz hf hl) qa qc (g := mkF m pc Ls st) rfl hsz (Steps.refl _) hlen hst (by show 2 * 0 + _ ≤ _; rw [Nat.mul_zero, Nat.zero_add]; exact hW) (hb hby hd) (fun _ _ => ⟨rfl, eT, hc, hs⟩)
  dsimp only [Pt.U, Pt.locs, Pt.cells, Pt.slots] at X' l1 y1 z1 st1 hQ
  subst l1 y1 z1
  exact Gol.step (fun _ k => st1.trans k) (k T' v Lc X' hQ)
theorem Gol.callF (X : Stand p l e R s m args below meth c T locs cells slots) (hx : p.tables.exec = Jvm.exec) (hby : c.code = code) (hZ : Z.Warmed39 s.vm) {own : String} (hown : s.vm.findClass own = some m.cls) {index count : Nat} {y z : MethodName} {C : String} {bytes : ByteArray} {maxL : Nat} {ret : Option FieldType} {rm : Room} {Q : Option Value → Heap → List Loc → Prop} (W : Nat) (argsL : List Value) {a : Addr} (wl : (Cond.methodLink own index y).before a0 Z = true) (wd : (Cond.declares y).before a0 Z = true) (wf : (Cond.interfaceMethod y.cls y.cls y.name y.desc).before args s = true) (wse : (Cond.selects C y z).before a0 Z = true) (wi : (Cond.instanceMethod z).before a0 Z = true) (wp : (Cond.publicMethod z).before a0 Z = true) (wu : (Cond.unhidden C y.name y.desc).before a0 Z = true) (wt : (Cond.castable C y.cls).before a0 Z = true) (wz : (Cond.initialized z.cls).before a0 Z = true) (wc : (Cond.code z bytes maxL ret).before a0 Z = true) (hy : y.cls ≠ "java/lang/invoke/MethodHandle" ∧ y.cls ≠ "java/lang/invoke/VarHandle") (E : Exa Z h a C) (hM : MetFree l z (head1 [Cond.code z bytes maxL ret] rm) (fun aa U => aa = (.ref a :: argsL).toArray ∧ Z.Warmed39 U.vm ∧ U.heap = h) (fun _ _ _ _ _ => True) (fun _ U o U' => ∃ v L, o = .returned v ∧ Q v U'.heap L ∧ FrameEnd U o U' L rm.cells rm.slots)) (hf : rm.frames + 1 ≤ R.frames) (hl : W + (maxL + 11) + rm.locals ≤ R.locals) (eT : T.heap = h) {st : List Value} (hsz : Ls.size = c.maxLocals) (hW : (rest.map fun v => v.category).sum ≤ W) (hc : cells + rm.cells ≤ R.cells) (hs : slots + rm.slots ≤ R.slots) (hlen : ∀ sig, parseMethodDescriptor y.desc = some sig → argsL.length = sig.parameters.length) (hst : st = argsL.reverse ++ .ref a :: rest) (hd : decode code pc = .ok (.invokeinterface index count, 5)) (hp : pc + 5 = pc')
    (k : ∀ (T' : State) (v : Option Value) (L : List Loc), Stand p l e R s m args below meth c T' (locs ++ L) (cells + rm.cells) (slots + rm.slots) → Q v T'.heap L → GolF p e below Fe Qf kc ks T' m pc' Ls (v.toList ++ rest)) : GolF p e below Fe Qf kc ks T m pc Ls st := by
  subst hp
  obtain ⟨cq, kq, qa, qb, qc⟩ := isOf hZ eT E
  obtain ⟨v, _, ⟨T', L1, k1, n1⟩, -, X', ⟨Lc, hQ, l1, y1, z1⟩, st1⟩ := X.interfaceBack hx hown (mvT hZ wl) (mvT hZ wd) wf (mvT hZ wse) (mvT hZ wi) (mvT hZ wp) (mvT hZ wu) (mvT hZ wt) hy (backOf (W := W) hM hZ wc wz hf hl) qa qb qc (g := mkF m pc Ls st) rfl hsz (Steps.refl _) hlen hst (by show 2 * 0 + _ ≤ _; rw [Nat.mul_zero, Nat.zero_add]; exact hW) (hb hby hd) (fun _ _ => ⟨rfl, eT, hc, hs⟩)
  dsimp only [Pt.U, Pt.locs, Pt.cells, Pt.slots] at X' l1 y1 z1 st1 hQ
  subst l1 y1 z1
  exact Gol.step (fun _ k => st1.trans k) (k T' v Lc X' hQ)
theorem Gol.callP (X : Stand p l e R s m args below meth c T locs cells slots) (hx : p.tables.exec = Jvm.exec) (hby : c.code = code) (hZ : Z.Warmed39 s.vm) {own : String} (hown : s.vm.findClass own = some m.cls) {index : Nat} {y : MethodName} {C : String} {bytes : ByteArray} {maxL : Nat} {ret : Option FieldType} {rm : Room} {Q : Option Value → Heap → List Loc → Prop} (W : Nat) (argsL : List Value) {a : Addr} (wl : (Cond.methodLink own index y).before a0 Z = true) (wi : (Cond.instanceMethod y).before a0 Z = true) (wse : (Cond.selects y.cls y y).before a0 Z = true) (wp : (Cond.privateMethod y).before a0 Z = true) (wz : (Cond.initialized y.cls).before a0 Z = true) (wc : (Cond.code y bytes maxL ret).before a0 Z = true) (hy : y.cls ≠ "java/lang/invoke/MethodHandle" ∧ y.cls ≠ "java/lang/invoke/VarHandle") (E : Exa Z h a C) (hM : MetFree l y (head1 [Cond.code y bytes maxL ret] rm) (fun aa U => aa = (.ref a :: argsL).toArray ∧ Z.Warmed39 U.vm ∧ U.heap = h) (fun _ _ _ _ _ => True) (fun _ U o U' => ∃ v L, o = .returned v ∧ Q v U'.heap L ∧ FrameEnd U o U' L rm.cells rm.slots)) (hf : rm.frames + 1 ≤ R.frames) (hl : W + (maxL + 11) + rm.locals ≤ R.locals) (eT : T.heap = h) {st : List Value} (hsz : Ls.size = c.maxLocals) (hW : (rest.map fun v => v.category).sum ≤ W) (hc : cells + rm.cells ≤ R.cells) (hs : slots + rm.slots ≤ R.slots) (hlen : ∀ sig, parseMethodDescriptor y.desc = some sig → argsL.length = sig.parameters.length) (hst : st = argsL.reverse ++ .ref a :: rest) (hd : decode code pc = .ok (.invokevirtual index, 3)) (hp : pc + 3 = pc')
    (k : ∀ (T' : State) (v : Option Value) (L : List Loc), Stand p l e R s m args below meth c T' (locs ++ L) (cells + rm.cells) (slots + rm.slots) → Q v T'.heap L → GolF p e below Fe Qf kc ks T' m pc' Ls (v.toList ++ rest)) : GolF p e below Fe Qf kc ks T m pc Ls st := by
  subst hp
  obtain ⟨cq, qa, qb⟩ := E.cell
  obtain ⟨v, _, ⟨T', L1, k1, n1⟩, -, X', ⟨Lc, hQ, l1, y1, z1⟩, st1⟩ := X.privateBack hx hown (mvT hZ wl) (mvT hZ wi) (mvT hZ wse) (Cond.privateMethod_at (mvP hZ wp (args := #[]))) (mvT hZ wc) hy (backOf (W := W) hM hZ wc wz hf hl) (g := mkF m pc Ls st) rfl hsz (Steps.refl _) (a := a) (by rw [eT]; exact qa) qb hlen hst (by show 2 * 0 + _ ≤ _; rw [Nat.mul_zero, Nat.zero_add]; exact hW) (hb hby hd) (fun _ _ => ⟨rfl, eT, hc, hs⟩)
  dsimp only [Pt.U, Pt.locs, Pt.cells, Pt.slots] at X' l1 y1 z1 st1 hQ
  subst l1 y1 z1
  exact Gol.step (fun _ k => st1.trans k) (k T' v Lc X' hQ)
theorem Gol.callB (X : Stand p l e R s m args below meth c T locs cells slots) (hx : p.tables.exec = Jvm.exec) (hby : c.code = code) (hZ : Z.Warmed39 s.vm) {own : String} (hown : s.vm.findClass own = some m.cls) {index : Nat} {y : MethodName} {bytes : ByteArray} {maxL : Nat} {Q : Option Value → Heap → List Loc → Prop} (W : Nat) (argsL : List Value) {a : Addr} {ck cn : Nat} (wl : (Cond.methodLink own index y).before a0 Z = true) (wi : (Cond.instanceMethod y).before a0 Z = true) (wc : (Cond.code y bytes maxL none).before a0 Z = true) (hn : y.name = "<init>") (hy : y.cls ≠ "java/lang/invoke/MethodHandle" ∧ y.cls ≠ "java/lang/invoke/VarHandle")
    (hK : Back l R p e below s args y 3 W (fun A aa => aa = (.ref a :: argsL).toArray ∧ A.U.heap = h ∧ A.cells + ck ≤ R.cells ∧ A.slots + cn ≤ R.slots) (fun A _ v B => ∃ L, Q v B.U.heap L ∧ B.locs = A.locs ++ L ∧ B.cells = A.cells + ck ∧ B.slots = A.slots + cn)) (eT : T.heap = h) {st : List Value} (hsz : Ls.size = c.maxLocals) (hW : (rest.map fun v => v.category).sum ≤ W) (hc : cells + ck ≤ R.cells) (hs : slots + cn ≤ R.slots) (hlen : ∀ sig, parseMethodDescriptor y.desc = some sig → argsL.length = sig.parameters.length) (hst : st = argsL.reverse ++ .ref a :: rest) (hd : decode code pc = .ok (.invokespecial index, 3)) (hp : pc + 3 = pc')
    (k : ∀ (T' : State) (v : Option Value) (L : List Loc), Stand p l e R s m args below meth c T' (locs ++ L) (cells + ck) (slots + cn) → Q v T'.heap L → GolF p e below Fe Qf kc ks T' m pc' Ls (v.toList ++ rest)) : GolF p e below Fe Qf kc ks T m pc Ls st := by
  subst hp
  obtain ⟨v, _, ⟨T', L1, k1, n1⟩, -, X', ⟨Lc, hQ, l1, y1, z1⟩, st1⟩ := X.specialBack hx hn hown (mvT hZ wl) (mvT hZ wi) (mvT hZ wc) hy hK (g := mkF m pc Ls st) rfl hsz (Steps.refl _) (a := a) hlen hst (by show 2 * 0 + _ ≤ _; rw [Nat.mul_zero, Nat.zero_add]; exact hW) (hb hby hd) (fun _ _ => ⟨rfl, eT, hc, hs⟩)
  dsimp only [Pt.U, Pt.locs, Pt.cells, Pt.slots] at X' l1 y1 z1 st1 hQ
  subst l1 y1 z1
  exact Gol.step (fun _ k => st1.trans k) (k T' v Lc X' hQ)
theorem Gol.retN (X : Stand p l e R s m args below meth c T locs cells slots) (hx : p.tables.exec = Jvm.exec) (hby : c.code = code) {z : Int32} {t : FieldType} (hret : meth.sig.returnType = some t) (ht : t = .boolean ∨ t = .byte ∨ t = .char ∨ t = .short) (hlk : meth.locks = false) (hd : decode code pc = .ok (.ireturn, 1)) (eT : T.heap = h) (hq : Qf (some (.int (nar t z))) h locs) (hc : cells ≤ kc) (hs : slots ≤ ks) : GolF p e below (FrameEnd s) Qf kc ks T m pc Ls (.int z :: rest) :=
  Gol.fin X (fun h => by rw [hret] at h; cases h) hlk eT hq hc hs fun fs hr => Jvm.RoadKit.retN X hx hret ht (hb hby hd) hr
theorem Gol.retI (X : Stand p l e R s m args below meth c T locs cells slots) (hx : p.tables.exec = Jvm.exec) (hby : c.code = code) {z : Int32} (hret : meth.sig.returnType = some .int) (hlk : meth.locks = false) (hd : decode code pc = .ok (.ireturn, 1)) (eT : T.heap = h) (hq : Qf (some (.int z)) h locs) (hc : cells ≤ kc) (hs : slots ≤ ks) : GolF p e below (FrameEnd s) Qf kc ks T m pc Ls (.int z :: rest) :=
  Gol.fin X (fun h => by rw [hret] at h; cases h) hlk eT hq hc hs fun fs hr => Jvm.RoadKit.retOut X hx hret rfl (Or.inl ⟨rfl, Or.inl rfl, _, rfl⟩) (hb hby hd) hr
theorem Gol.retL (X : Stand p l e R s m args below meth c T locs cells slots) (hx : p.tables.exec = Jvm.exec) (hby : c.code = code) {z : Int64} (hret : meth.sig.returnType = some .long) (hlk : meth.locks = false) (hd : decode code pc = .ok (.lreturn, 1)) (eT : T.heap = h) (hq : Qf (some (.long z)) h locs) (hc : cells ≤ kc) (hs : slots ≤ ks) : GolF p e below (FrameEnd s) Qf kc ks T m pc Ls (.long z :: rest) :=
  Gol.fin X (fun h => by rw [hret] at h; cases h) hlk eT hq hc hs fun fs hr => Jvm.RoadKit.retOut X hx hret rfl (Or.inr (Or.inl ⟨rfl, rfl, _, rfl⟩)) (hb hby hd) hr
theorem Gol.retA (X : Stand p l e R s m args below meth c T locs cells slots) (hx : p.tables.exec = Jvm.exec) (hby : c.code = code) {w : Value} {t : FieldType} (hret : meth.sig.returnType = some t) (ht : t.isReference = true) (hw : w.isRef = true) (hlk : meth.locks = false) (hd : decode code pc = .ok (.areturn, 1)) (eT : T.heap = h) (hq : Qf (some w) h locs) (hc : cells ≤ kc) (hs : slots ≤ ks) : GolF p e below (FrameEnd s) Qf kc ks T m pc Ls (w :: rest) :=
  Gol.fin X (fun h => by rw [hret] at h; cases h) hlk eT hq hc hs fun fs hr => Jvm.RoadKit.retOut X hx hret (by rcases ref_cases hw with rfl | ⟨a, rfl⟩ <;> cases t <;> first | rfl | (simp [FieldType.isReference] at ht)) (Or.inr (Or.inr (Or.inr (Or.inr ⟨rfl, ht, hw⟩)))) (hb hby hd) hr
theorem Gol.ret0 (X : Stand p l e R s m args below meth c T locs cells slots) (hx : p.tables.exec = Jvm.exec) (hby : c.code = code) (hret : meth.sig.returnType = none) (hlk : meth.locks = false) (hd : decode code pc = .ok (.return_, 1)) (eT : T.heap = h) (hq : Qf none h locs) (hc : cells ≤ kc) (hs : slots ≤ ks) : GolF p e below (FrameEnd s) Qf kc ks T m pc Ls [] :=
  Gol.fin X (fun _ => rfl) hlk eT hq hc hs fun fs hr => X.returnOut hx hret (hb hby hd) hr
theorem Gol.retNW {vm₁ : Vm} (X : Stand p l e R (s.setVm vm₁) m args below meth c T locs cells slots) (hx : p.tables.exec = Jvm.exec) (hby : c.code = code) {n : Nat} (hS : s.Since vm₁ n) (hn : n ≤ h.size) {z : Int32} {t : FieldType} (hret : meth.sig.returnType = some t) (ht : t = .boolean ∨ t = .byte ∨ t = .char ∨ t = .short) (hlk : meth.locks = false) (hd : decode code pc = .ok (.ireturn, 1)) (eT : T.heap = h) (hq : Qf (some (.int (nar t z))) h locs) (hc : cells ≤ kc) (hs : slots ≤ ks) : GolF p e below (ReturnedEndW s) Qf kc ks T m pc Ls (.int z :: rest) :=
  Gol.finW X hS (eT ▸ hn) (fun h => by rw [hret] at h; cases h) hlk eT hq hc hs fun fs hr => Jvm.RoadKit.retN X hx hret ht (hb hby hd) hr
theorem Gol.ldcStr {vm₁ : Vm} (X : Stand p l e R (s.setVm vm₁) m args below meth c T locs cells slots) (hx : p.tables.exec = Jvm.exec) (hby : c.code = code) {own text : String} {index : Nat} (hZ : Z.Warmed39 vm₁) (hown : vm₁.findClass own = some m.cls) (w : (Cond.stringLink own index text).before a0 Z = true) (wS : ∀ a ∈ Bundle.stringAtoms, a.before a0 Z = true) (eT : T.heap = h) {k0 : Nat} (hS : s.Since vm₁ k0) (hk : k0 ≤ h.size) (n : Nat) (hd : decode code pc = .ok (.ldc index, 2)) (hp : pc + 2 = pc') (hn : 4 * text.toList.length ≤ n) (hbig : n ≤ 536870912) (hc : cells + 2 ≤ R.cells) (hl : slots + (n + 4) ≤ R.slots)
    (k : ∀ (a : Addr) (T' : State) (h' : Heap) (k1 : Nat), Stand p l e R (s.setVm T'.vm) m args below meth c T' locs (cells + 2) (slots + (n + 4)) → T'.heap = h' → Ext h h' → s.Since T'.vm k1 → k1 ≤ h'.size → Z.Warmed39 (s.setVm T'.vm).vm → (s.setVm T'.vm).vm.findClass own = some m.cls → GolF p e below Fe Qf kc ks T' m pc' Ls (.ref a :: rest)) : GolF p e below Fe Qf kc ks T m pc Ls rest := by
  subst hp
  obtain ⟨a, T', h', k1, X', e', E, S', K', Z', O', st⟩ := ldcS X hx hZ hown w wS eT hS hk (g := mkF m pc Ls rest) rfl (hb hby hd) (n := n) hn hbig hc hl
  exact Gol.step st (k a T' h' k1 X' e' E S' K' Z' O')
theorem nar_ite {P : Prop} [Decidable P] {a b : Int32} (ha : nar .boolean a = a) (hb : nar .boolean b = b) : nar .boolean (if P then a else b) = (if P then a else b) := by
  split <;> assumption
theorem tltL {x y : Int64} (h : x < y) : ifCond.holds .lt (XT.cmpL x y) = true ∧ ifCond.holds .ge (XT.cmpL x y) = false := by
  have h1 : ¬ y < x := fun q => Int64.lt_irrefl (Int64.lt_trans h q)
  have h2 : ¬ x = y := fun q => Int64.lt_irrefl (q ▸ h)
  simp [XT.cmpL, h1, h2, ifCond.holds]
theorem fltL {x y : Int64} (h : ¬ x < y) : ifCond.holds .lt (XT.cmpL x y) = false ∧ ifCond.holds .ge (XT.cmpL x y) = true := by
  by_cases h1 : y < x
  · simp [XT.cmpL, h1, ifCond.holds]
  · have h2 : x = y := Int64.le_antisymm (Int64.not_lt.mp h1) (Int64.not_lt.mp h)
    simp [XT.cmpL, h2, ifCond.holds, Int64.lt_irrefl]
theorem tgtL {x y : Int64} (h : y < x) : ifCond.holds .gt (XT.cmpL x y) = true ∧ ifCond.holds .le (XT.cmpL x y) = false := by
  simp [XT.cmpL, h, ifCond.holds]
theorem fgtL {x y : Int64} (h : ¬ y < x) : ifCond.holds .gt (XT.cmpL x y) = false ∧ ifCond.holds .le (XT.cmpL x y) = true := by
  by_cases h2 : x = y <;> simp [XT.cmpL, h, h2, ifCond.holds, Int64.lt_irrefl]
theorem teqL {x y : Int64} (h : x = y) : ifCond.holds .eq (XT.cmpL x y) = true ∧ ifCond.holds .ne (XT.cmpL x y) = false := by
  subst h; simp [XT.cmpL, Int64.lt_irrefl, ifCond.holds]
theorem feqL {x y : Int64} (h : ¬ x = y) : ifCond.holds .eq (XT.cmpL x y) = false ∧ ifCond.holds .ne (XT.cmpL x y) = true := by
  by_cases h1 : y < x <;> simp [XT.cmpL, h, h1, ifCond.holds]
end Own
end Jvm.RoadKit
namespace Jvm.Pilot.@@N@@
open Jvm Jvm.ClassFile Sem Op Lib Jvm.Free Jvm.Stand Jvm.LawKit Jvm.RoadKit Bundle Jvm.Pilot.@@N@@.Jvm.D
theorem d1_0 : decode prog_155_method_4_code 0 = .ok (.iload_n 0, 1) := by decide +kernel
theorem d1_1 : decode prog_155_method_4_code 1 = .ok (.ifCond .eq 17, 3) := by decide +kernel
theorem d1_4 : decode prog_155_method_4_code 4 = .ok (.iload_n 1, 1) := by decide +kernel
theorem d1_5 : decode prog_155_method_4_code 5 = .ok (.ifCond .eq 9, 3) := by decide +kernel
theorem d1_8 : decode prog_155_method_4_code 8 = .ok (.getstatic 13, 3) := by decide +kernel
theorem d1_11 : decode prog_155_method_4_code 11 = .ok (.goto 6, 3) := by decide +kernel
theorem d1_14 : decode prog_155_method_4_code 14 = .ok (.getstatic 7, 3) := by decide +kernel
theorem d1_17 : decode prog_155_method_4_code 17 = .ok (.areturn, 1) := by decide +kernel
theorem d1_18 : decode prog_155_method_4_code 18 = .ok (.iload_n 1, 1) := by decide +kernel
theorem d1_19 : decode prog_155_method_4_code 19 = .ok (.ifCond .eq 9, 3) := by decide +kernel
theorem d1_22 : decode prog_155_method_4_code 22 = .ok (.getstatic 10, 3) := by decide +kernel
theorem d1_25 : decode prog_155_method_4_code 25 = .ok (.goto 6, 3) := by decide +kernel
theorem d1_28 : decode prog_155_method_4_code 28 = .ok (.getstatic 3, 3) := by decide +kernel
theorem d1_31 : decode prog_155_method_4_code 31 = .ok (.areturn, 1) := by decide +kernel
theorem pd_0 : parseMethodDescriptor "(ZZ)Lcom/example/reqwery/reqwery/fulltext/TokenForm;" = some ⟨[.boolean, .boolean], some (.object "com/example/reqwery/reqwery/fulltext/TokenForm")⟩ := by decide +kernel
theorem pn_1 : plainName "com/example/reqwery/reqwery/fulltext/TokenForm" = true := by first | (simp [plainName, overriddenIn]; done) | decide +kernel
theorem ef_1 (m : MethodId) (p0 : Int32) (p1 : Int32) : entryFrame m #[(.int p0), (.int p1)] 2 = mkF m 0 #[.val (.int p0), .val (.int p1)] [] := by first | (simp [entryFrame, mkF, argsToLocals, Value.category]; done) | rfl
def f1 (p0 : Int32) (p1 : Int32) (w0 : Addr) (w1 : Addr) (w2 : Addr) (w3 : Addr) : Addr :=
  if p0 = (0 : Int32) then
    if p1 = (0 : Int32) then
      w0
    else
      w2
  else
    if p1 = (0 : Int32) then
      w1
    else
      w3
abbrev Q1 (Z : State) (p0 : Int32) (p1 : Int32) (w0 : Addr) (w1 : Addr) (w2 : Addr) (w3 : Addr) (h0 : Heap) (n0 : Nat) (v : Option Value) (h : Heap) (L : List Loc) : Prop := v = some (.ref (f1 p0 p1 w0 w1 w2 w3)) ∧ Fr n0 L ∧ h = h0
set_option maxRecDepth 65536 in
set_option maxHeartbeats 40000000 in
theorem rm1 (l : Launch) (Z : State) (a0 : Array Value) (hw : ∀ d ∈ tables_1, d.before a0 Z = true) (ws : List Jvm.Cond) (p0 : Int32) (p1 : Int32) (w0 : Addr) (w1 : Addr) (w2 : Addr) (w3 : Addr) (h0 : Heap) (n0 : Nat) (Z0 : n0 ≤ h0.size) (S_AS_WRITTEN : Sta Z h0 "com/example/reqwery/reqwery/fulltext/TokenForm" "AS_WRITTEN" "Lcom/example/reqwery/reqwery/fulltext/TokenForm;" (.ref w0)) (S_CASE_FOLDED : Sta Z h0 "com/example/reqwery/reqwery/fulltext/TokenForm" "CASE_FOLDED" "Lcom/example/reqwery/reqwery/fulltext/TokenForm;" (.ref w1)) (S_DIACRITICS_REMOVED : Sta Z h0 "com/example/reqwery/reqwery/fulltext/TokenForm" "DIACRITICS_REMOVED" "Lcom/example/reqwery/reqwery/fulltext/TokenForm;" (.ref w2)) (S_FOLDED : Sta Z h0 "com/example/reqwery/reqwery/fulltext/TokenForm" "FOLDED" "Lcom/example/reqwery/reqwery/fulltext/TokenForm;" (.ref w3)) :
    MetFree l (⟨"com/example/reqwery/reqwery/fulltext/TokenForm", "of", "(ZZ)Lcom/example/reqwery/reqwery/fulltext/TokenForm;"⟩ : MethodName) (head1 (Jvm.Cond.code (⟨"com/example/reqwery/reqwery/fulltext/TokenForm", "of", "(ZZ)Lcom/example/reqwery/reqwery/fulltext/TokenForm;"⟩ : MethodName) prog_155_method_4_code 2 (some (.object "com/example/reqwery/reqwery/fulltext/TokenForm")) :: ws) ({ frames := 0, cells := 0, slots := 0, locals := 0 } : Room)) (fun a U => a = #[(.int p0), (.int p1)] ∧ Z.Warmed39 U.vm ∧ U.heap = h0) (fun _ _ _ _ _ => True) (fun _ U o U' => ∃ v L, o = .returned v ∧ Q1 Z p0 p1 w0 w1 w2 w3 h0 n0 v U'.heap L ∧ FrameEnd U o U' L 0 0) := by
  refine MetFree.of_bodySF (plainFor_of_name pn_1) hisR ?_
  intro p ev s m args below meth c s₁ Bd hml0 hP hK
  obtain ⟨rfl, hZ, hh⟩ := hP
  have hx := Bd.exec
  have hby := Bd.bytes
  have hml : c.maxLocals = 2 := hml0
  have hown : s.vm.findClass "com/example/reqwery/reqwery/fulltext/TokenForm" = some m.cls := findClass_of_methodNamed Bd.named
  have hnm := (name_of_methodNamed Bd.named Bd.method).1
  have X0 : Stand p l ev ({ frames := 0, cells := 0, slots := 0, locals := 0 } : Room) s m #[(.int p0), (.int p1)] below meth c s₁ [] 0 0 := Stand.of_body Bd
  have eh0 : s₁.heap = h0 := by rw [← hh, Bd.state]; rfl
  have N0 := Fr.nil n0
  have Zs := Z0
  show Gol p ev below (FrameEnd s) (Q1 Z p0 p1 w0 w1 w2 w3 h0 n0) 0 0 (s₁.setTop (entryFrame m #[(.int p0), (.int p1)] 2))
  rw [ef_1]
  show GolF _ _ _ _ _ _ _ s₁ m 0 #[.val (.int p0), .val (.int p1)] []
  refine Gol.iloadN X0 hx hby d1_0 (pc' := 1) rfl rfl ?_
  by_cases hc1_1 : p0 = (0 : Int32)
  · skip
    refine Gol.ifYes X0 hx hby d1_1 (pc' := 18) (by decide) ((if0 _ _).trans (teq hc1_1).1) ?_
    refine Gol.iloadN X0 hx hby d1_18 (pc' := 19) rfl rfl ?_
    by_cases hc19_2 : p1 = (0 : Int32)
    · skip
      refine Gol.ifYes X0 hx hby d1_19 (pc' := 28) (by decide) ((if0 _ _).trans (teq hc19_2).1) ?_
      refine Gol.getS X0 hx hby hZ hown (host := "") (Or.inl (hw _ (List.mem_of_getElem? (i := 15) rfl))) Via.refl eh0 S_AS_WRITTEN d1_28 (pc' := 31) rfl ?_
      intro T3 X3 e3
      have hv4 : f1 p0 p1 w0 w1 w2 w3 = w0 := by
        unfold f1
        rw [if_pos hc1_1, if_pos hc19_2]
      exact Gol.retA X3 hx hby Bd.returns rfl rfl Bd.notSynchronized d1_31 e3 ⟨congrArg (fun z => some (Value.ref z)) (hv4.symm), N0, rfl⟩ (by decide) (by decide)
    · skip
      refine Gol.ifNo X0 hx hby d1_19 (pc' := 22) rfl ((if0 _ _).trans (feq hc19_2).1) ?_
      refine Gol.getS X0 hx hby hZ hown (host := "") (Or.inl (hw _ (List.mem_of_getElem? (i := 17) rfl))) Via.refl eh0 S_DIACRITICS_REMOVED d1_22 (pc' := 25) rfl ?_
      intro T5 X5 e5
      refine Gol.goto X5 hx hby d1_25 (pc' := 31) (by decide) ?_
      have hv6 : f1 p0 p1 w0 w1 w2 w3 = w2 := by
        unfold f1
        rw [if_pos hc1_1, if_neg hc19_2]
      exact Gol.retA X5 hx hby Bd.returns rfl rfl Bd.notSynchronized d1_31 e5 ⟨congrArg (fun z => some (Value.ref z)) (hv6.symm), N0, rfl⟩ (by decide) (by decide)
  · skip
    refine Gol.ifNo X0 hx hby d1_1 (pc' := 4) rfl ((if0 _ _).trans (feq hc1_1).1) ?_
    refine Gol.iloadN X0 hx hby d1_4 (pc' := 5) rfl rfl ?_
    by_cases hc5_7 : p1 = (0 : Int32)
    · skip
      refine Gol.ifYes X0 hx hby d1_5 (pc' := 14) (by decide) ((if0 _ _).trans (teq hc5_7).1) ?_
      refine Gol.getS X0 hx hby hZ hown (host := "") (Or.inl (hw _ (List.mem_of_getElem? (i := 18) rfl))) Via.refl eh0 S_CASE_FOLDED d1_14 (pc' := 17) rfl ?_
      intro T8 X8 e8
      have hv9 : f1 p0 p1 w0 w1 w2 w3 = w1 := by
        unfold f1
        rw [if_neg hc1_1, if_pos hc5_7]
      exact Gol.retA X8 hx hby Bd.returns rfl rfl Bd.notSynchronized d1_17 e8 ⟨congrArg (fun z => some (Value.ref z)) (hv9.symm), N0, rfl⟩ (by decide) (by decide)
    · skip
      refine Gol.ifNo X0 hx hby d1_5 (pc' := 8) rfl ((if0 _ _).trans (feq hc5_7).1) ?_
      refine Gol.getS X0 hx hby hZ hown (host := "") (Or.inl (hw _ (List.mem_of_getElem? (i := 16) rfl))) Via.refl eh0 S_FOLDED d1_8 (pc' := 11) rfl ?_
      intro T10 X10 e10
      refine Gol.goto X10 hx hby d1_11 (pc' := 17) (by decide) ?_
      have hv11 : f1 p0 p1 w0 w1 w2 w3 = w3 := by
        unfold f1
        rw [if_neg hc1_1, if_neg hc5_7]
      exact Gol.retA X10 hx hby Bd.returns rfl rfl Bd.notSynchronized d1_17 e10 ⟨congrArg (fun z => some (Value.ref z)) (hv11.symm), N0, rfl⟩ (by decide) (by decide)
theorem own_mask3 (x : Int32) : (x &&& (3 : Int32)) = (0 : Int32) ∨ (x &&& (3 : Int32)) = (1 : Int32) ∨ (x &&& (3 : Int32)) = (2 : Int32) ∨ (x &&& (3 : Int32)) = (3 : Int32) := by
  have h : (x &&& 3).toBitVec.toNat ≤ 3 := by
    rw [Int32.toBitVec_and, BitVec.toNat_and]; exact Nat.and_le_right
  have q : ∀ k : Int32, (x &&& 3).toBitVec.toNat = k.toBitVec.toNat → (x &&& 3) = k := fun k hk => Int32.toBitVec_inj.mp (BitVec.eq_of_toNat_eq hk)
  have e : (x &&& 3).toBitVec.toNat = 0 ∨ (x &&& 3).toBitVec.toNat = 1 ∨ (x &&& 3).toBitVec.toNat = 2 ∨ (x &&& 3).toBitVec.toNat = 3 := by omega
  rcases e with e | e | e | e
  · exact Or.inl (q 0 e)
  · exact Or.inr (Or.inl (q 1 e))
  · exact Or.inr (Or.inr (Or.inl (q 2 e)))
  · exact Or.inr (Or.inr (Or.inr (q 3 e)))
theorem own_and1 (x : Int32) : (x &&& (1 : Int32)) = (x &&& (3 : Int32)) &&& (1 : Int32) := by
  rw [Int32.and_assoc, show (3 : Int32) &&& 1 = 1 from rfl]
theorem own_and2 (x : Int32) : (x &&& (2 : Int32)) = (x &&& (3 : Int32)) &&& (2 : Int32) := by
  rw [Int32.and_assoc, show (3 : Int32) &&& 2 = 2 from rfl]
theorem pn_0 : plainName "com/example/reqwery/reqwery/fulltext/TokenFormOfPinLaw" = true := by first | (simp [plainName, overriddenIn]; done) | decide +kernel
theorem ef_0 (m : MethodId) (p0 : Int32) : entryFrame m #[(.int p0)] maxLocals = mkF m 0 #[.val (.int p0), .unset, .unset, .unset, .unset] [] := by first | (simp [entryFrame, mkF, argsToLocals, Value.category, maxLocals]; done) | rfl
abbrev Q0 (Z : State) (p0 : Int32) (w0 : Addr) (w1 : Addr) (w2 : Addr) (w3 : Addr) (h0 : Heap) (n0 : Nat) (v : Option Value) (h : Heap) (L : List Loc) : Prop := v = some (.int 1) ∧ Fr n0 L
set_option maxRecDepth 65536 in
set_option maxHeartbeats 40000000 in
theorem rm0 (l : Launch) (Z : State) (a0 : Array Value) (hw : ∀ d ∈ tables_1, d.before a0 Z = true) (ws : List Jvm.Cond) (p0 : Int32) (w0 : Addr) (w1 : Addr) (w2 : Addr) (w3 : Addr) (h0 : Heap) (n0 : Nat) (Z0 : n0 ≤ h0.size) (S_AS_WRITTEN : Sta Z h0 "com/example/reqwery/reqwery/fulltext/TokenForm" "AS_WRITTEN" "Lcom/example/reqwery/reqwery/fulltext/TokenForm;" (.ref w0)) (S_CASE_FOLDED : Sta Z h0 "com/example/reqwery/reqwery/fulltext/TokenForm" "CASE_FOLDED" "Lcom/example/reqwery/reqwery/fulltext/TokenForm;" (.ref w1)) (S_DIACRITICS_REMOVED : Sta Z h0 "com/example/reqwery/reqwery/fulltext/TokenForm" "DIACRITICS_REMOVED" "Lcom/example/reqwery/reqwery/fulltext/TokenForm;" (.ref w2)) (S_FOLDED : Sta Z h0 "com/example/reqwery/reqwery/fulltext/TokenForm" "FOLDED" "Lcom/example/reqwery/reqwery/fulltext/TokenForm;" (.ref w3)) (E_w0 : Exa Z h0 w0 "com/example/reqwery/reqwery/fulltext/TokenForm") (E_w1 : Exa Z h0 w1 "com/example/reqwery/reqwery/fulltext/TokenForm") (E_w2 : Exa Z h0 w2 "com/example/reqwery/reqwery/fulltext/TokenForm") (E_w3 : Exa Z h0 w3 "com/example/reqwery/reqwery/fulltext/TokenForm") :
    MetFree l x (head1 (Jvm.Cond.code x code maxLocals ret :: ws) room_1) (fun a U => a = #[(.int p0)] ∧ Z.Warmed39 U.vm ∧ U.heap = h0) (fun _ _ _ _ _ => True) (fun _ U o U' => ∃ v L, o = .returned v ∧ Q0 Z p0 w0 w1 w2 w3 h0 n0 v U'.heap L ∧ FrameEnd U o U' L 1 4) := by
  refine MetFree.of_bodySF (plainFor_of_name pn_0) hisR ?_
  intro p ev s m args below meth c s₁ Bd hml0 hP hK
  obtain ⟨rfl, hZ, hh⟩ := hP
  have hx := Bd.exec
  have hby := Bd.bytes
  have hml : c.maxLocals = 5 := hml0
  have hown : s.vm.findClass "com/example/reqwery/reqwery/fulltext/TokenFormOfPinLaw" = some m.cls := findClass_of_methodNamed Bd.named
  have hnm := (name_of_methodNamed Bd.named Bd.method).1
  have X0 : Stand p l ev room_1 s m #[(.int p0)] below meth c s₁ [] 0 0 := Stand.of_body Bd
  have eh0 : s₁.heap = h0 := by rw [← hh, Bd.state]; rfl
  have N0 := Fr.nil n0
  have Zs := Z0
  show Gol p ev below (FrameEnd s) (Q0 Z p0 w0 w1 w2 w3 h0 n0) 1 4 (s₁.setTop (entryFrame m #[(.int p0)] maxLocals))
  rw [ef_0]
  show GolF _ _ _ _ _ _ _ s₁ m 0 #[.val (.int p0), .unset, .unset, .unset, .unset] []
  rcases own_mask3 p0 with hk | hk | hk | hk
  · skip
    have h1 : (p0 &&& (1 : Int32)) = (0 : Int32) := by rw [own_and1, hk]; rfl
    have h2 : (p0 &&& (2 : Int32)) = (0 : Int32) := by rw [own_and2, hk]; rfl
    show GolF _ _ _ _ _ _ _ s₁ m 0 #[.val (.int p0), .unset, .unset, .unset, .unset] []
    refine Gol.iloadN X0 hx hby at_0 (pc' := 1) rfl rfl ?_
    refine Gol.iconst X0 hx hby at_1 (pc' := 2) rfl (z := (1 : Int32)) rfl ?_
    refine Gol.iand X0 hx hby at_2 (pc' := 3) rfl rfl ?_
    refine Gol.ifYes X0 hx hby at_3 (pc' := 10) (by decide) ((if0 _ _).trans (teq h1).1) ?_
    refine Gol.iconst X0 hx hby at_10 (pc' := 11) rfl (z := (0 : Int32)) rfl ?_
    refine Gol.istoreN X0 hx hby at_11 (pc' := 12) rfl (l' := #[.val (.int p0), .val (.int (0 : Int32)), .unset, .unset, .unset]) rfl ?_
    refine Gol.iloadN X0 hx hby at_12 (pc' := 13) rfl rfl ?_
    refine Gol.iconst X0 hx hby at_13 (pc' := 14) rfl (z := (2 : Int32)) rfl ?_
    refine Gol.iand X0 hx hby at_14 (pc' := 15) rfl rfl ?_
    refine Gol.ifYes X0 hx hby at_15 (pc' := 22) (by decide) ((if0 _ _).trans (teq h2).1) ?_
    refine Gol.iconst X0 hx hby at_22 (pc' := 23) rfl (z := (0 : Int32)) rfl ?_
    refine Gol.istoreN X0 hx hby at_23 (pc' := 24) rfl (l' := #[.val (.int p0), .val (.int (0 : Int32)), .val (.int (0 : Int32)), .unset, .unset]) rfl ?_
    refine Gol.iconst X0 hx hby at_24 (pc' := 25) rfl (z := (4 : Int32)) rfl ?_
    refine Gol.newref X0 hx hby hZ hown (hw _ (List.mem_of_getElem? (i := 0) rfl)) (hw _ (List.mem_of_getElem? (i := 1) rfl)) eh0 4 at_25 (pc' := 28) rfl (by decide) (by decide) (by decide) (by decide) (by decide) ?_
    intro T1 h1 k1 b1 g1 X1 e1 E1 A1 O1
    have lo_w0_b1 : w0 < b1 := Nat.lt_of_lt_of_le E_w0.lt (Nat.le_of_eq g1.symm)
    have ne_w0_b1 : w0 ≠ b1 := Nat.ne_of_lt lo_w0_b1
    have lo_w1_b1 : w1 < b1 := Nat.lt_of_lt_of_le E_w1.lt (Nat.le_of_eq g1.symm)
    have ne_w1_b1 : w1 ≠ b1 := Nat.ne_of_lt lo_w1_b1
    have lo_w2_b1 : w2 < b1 := Nat.lt_of_lt_of_le E_w2.lt (Nat.le_of_eq g1.symm)
    have ne_w2_b1 : w2 ≠ b1 := Nat.ne_of_lt lo_w2_b1
    have lo_w3_b1 : w3 < b1 := Nat.lt_of_lt_of_le E_w3.lt (Nat.le_of_eq g1.symm)
    have ne_w3_b1 : w3 ≠ b1 := Nat.ne_of_lt lo_w3_b1
    have g_b1 : n0 ≤ b1 := Nat.le_trans Zs (Nat.le_of_eq g1.symm)
    have E_w0 := E_w0.ext E1
    have E_w1 := E_w1.ext E1
    have E_w2 := E_w2.ext E1
    have E_w3 := E_w3.ext E1
    have S_AS_WRITTEN := S_AS_WRITTEN.ext E1
    have S_CASE_FOLDED := S_CASE_FOLDED.ext E1
    have S_DIACRITICS_REMOVED := S_DIACRITICS_REMOVED.ext E1
    have S_FOLDED := S_FOLDED.ext E1
    have Zs := Nat.le_trans Zs E1.1
    have V_b1 : Arv Z h1 b1 k1 (.object "com/example/reqwery/reqwery/fulltext/TokenForm") (4 : Int32) [.null, .null, .null, .null] .null := A1.pad (pad_rep [] .null 4)
    refine Gol.dup X1 hx hby at_28 (pc' := 29) rfl rfl ?_
    refine Gol.iconst X1 hx hby at_29 (pc' := 30) rfl (z := (0 : Int32)) rfl ?_
    refine Gol.getS X1 hx hby hZ hown (host := "") (Or.inl (hw _ (List.mem_of_getElem? (i := 2) rfl))) Via.refl e1 S_AS_WRITTEN at_30 (pc' := 33) rfl ?_
    intro T2 X2 e2
    refine Gol.aastore X2 hx hby hZ e2 V_b1 at_33 (pc' := 34) rfl ⟨by decide, by decide⟩ 0 rfl (Nat.le_of_ble_eq_true rfl) rfl rfl (fun _ Ar q => Sto.ofV Ar q O1 (Ins.self E_w0)) ?_
    intro T3 h3 X3 e3 W3 A3
    have V_b1 : Arv Z h3 b1 k1 (.object "com/example/reqwery/reqwery/fulltext/TokenForm") (4 : Int32) [(.ref w0), .null, .null, .null] .null := A3
    have E_w0 := E_w0.wr W3
    have E_w1 := E_w1.wr W3
    have E_w2 := E_w2.wr W3
    have E_w3 := E_w3.wr W3
    have S_AS_WRITTEN := S_AS_WRITTEN.wr W3
    have S_CASE_FOLDED := S_CASE_FOLDED.wr W3
    have S_DIACRITICS_REMOVED := S_DIACRITICS_REMOVED.wr W3
    have S_FOLDED := S_FOLDED.wr W3
    have Zs := Nat.le_trans Zs (Keep.of_wr W3).1
    have N3 := Fr.snoc X3 N0 g_b1
    refine Gol.dup X3 hx hby at_34 (pc' := 35) rfl rfl ?_
    refine Gol.iconst X3 hx hby at_35 (pc' := 36) rfl (z := (1 : Int32)) rfl ?_
    refine Gol.getS X3 hx hby hZ hown (host := "") (Or.inl (hw _ (List.mem_of_getElem? (i := 6) rfl))) Via.refl e3 S_CASE_FOLDED at_36 (pc' := 39) rfl ?_
    intro T4 X4 e4
    refine Gol.aastore X4 hx hby hZ e4 V_b1 at_39 (pc' := 40) rfl ⟨by decide, by decide⟩ 1 rfl (Nat.le_of_ble_eq_true rfl) rfl rfl (fun _ Ar q => Sto.ofV Ar q O1 (Ins.self E_w1)) ?_
    intro T5 h5 X5 e5 W5 A5
    have V_b1 : Arv Z h5 b1 k1 (.object "com/example/reqwery/reqwery/fulltext/TokenForm") (4 : Int32) [(.ref w0), (.ref w1), .null, .null] .null := A5
    have E_w0 := E_w0.wr W5
    have E_w1 := E_w1.wr W5
    have E_w2 := E_w2.wr W5
    have E_w3 := E_w3.wr W5
    have S_AS_WRITTEN := S_AS_WRITTEN.wr W5
    have S_CASE_FOLDED := S_CASE_FOLDED.wr W5
    have S_DIACRITICS_REMOVED := S_DIACRITICS_REMOVED.wr W5
    have S_FOLDED := S_FOLDED.wr W5
    have Zs := Nat.le_trans Zs (Keep.of_wr W5).1
    have N5 := Fr.snoc X5 N3 g_b1
    refine Gol.dup X5 hx hby at_40 (pc' := 41) rfl rfl ?_
    refine Gol.iconst X5 hx hby at_41 (pc' := 42) rfl (z := (2 : Int32)) rfl ?_
    refine Gol.getS X5 hx hby hZ hown (host := "") (Or.inl (hw _ (List.mem_of_getElem? (i := 8) rfl))) Via.refl e5 S_DIACRITICS_REMOVED at_42 (pc' := 45) rfl ?_
    intro T6 X6 e6
    refine Gol.aastore X6 hx hby hZ e6 V_b1 at_45 (pc' := 46) rfl ⟨by decide, by decide⟩ 2 rfl (Nat.le_of_ble_eq_true rfl) rfl rfl (fun _ Ar q => Sto.ofV Ar q O1 (Ins.self E_w2)) ?_
    intro T7 h7 X7 e7 W7 A7
    have V_b1 : Arv Z h7 b1 k1 (.object "com/example/reqwery/reqwery/fulltext/TokenForm") (4 : Int32) [(.ref w0), (.ref w1), (.ref w2), .null] .null := A7
    have E_w0 := E_w0.wr W7
    have E_w1 := E_w1.wr W7
    have E_w2 := E_w2.wr W7
    have E_w3 := E_w3.wr W7
    have S_AS_WRITTEN := S_AS_WRITTEN.wr W7
    have S_CASE_FOLDED := S_CASE_FOLDED.wr W7
    have S_DIACRITICS_REMOVED := S_DIACRITICS_REMOVED.wr W7
    have S_FOLDED := S_FOLDED.wr W7
    have Zs := Nat.le_trans Zs (Keep.of_wr W7).1
    have N7 := Fr.snoc X7 N5 g_b1
    refine Gol.dup X7 hx hby at_46 (pc' := 47) rfl rfl ?_
    refine Gol.iconst X7 hx hby at_47 (pc' := 48) rfl (z := (3 : Int32)) rfl ?_
    refine Gol.getS X7 hx hby hZ hown (host := "") (Or.inl (hw _ (List.mem_of_getElem? (i := 10) rfl))) Via.refl e7 S_FOLDED at_48 (pc' := 51) rfl ?_
    intro T8 X8 e8
    refine Gol.aastore X8 hx hby hZ e8 V_b1 at_51 (pc' := 52) rfl ⟨by decide, by decide⟩ 3 rfl (Nat.le_of_ble_eq_true rfl) rfl rfl (fun _ Ar q => Sto.ofV Ar q O1 (Ins.self E_w3)) ?_
    intro T9 h9 X9 e9 W9 A9
    have V_b1 : Arv Z h9 b1 k1 (.object "com/example/reqwery/reqwery/fulltext/TokenForm") (4 : Int32) [(.ref w0), (.ref w1), (.ref w2), (.ref w3)] .null := A9
    have E_w0 := E_w0.wr W9
    have E_w1 := E_w1.wr W9
    have E_w2 := E_w2.wr W9
    have E_w3 := E_w3.wr W9
    have S_AS_WRITTEN := S_AS_WRITTEN.wr W9
    have S_CASE_FOLDED := S_CASE_FOLDED.wr W9
    have S_DIACRITICS_REMOVED := S_DIACRITICS_REMOVED.wr W9
    have S_FOLDED := S_FOLDED.wr W9
    have Zs := Nat.le_trans Zs (Keep.of_wr W9).1
    have N9 := Fr.snoc X9 N7 g_b1
    refine Gol.astoreN X9 hx hby at_52 (pc' := 53) rfl rfl (l' := #[.val (.int p0), .val (.int (0 : Int32)), .val (.int (0 : Int32)), .val (.ref b1), .unset]) rfl ?_
    refine Gol.aloadN X9 hx hby at_53 (pc' := 54) rfl rfl rfl ?_
    refine Gol.iloadN X9 hx hby at_54 (pc' := 55) rfl rfl ?_
    refine Gol.iconst X9 hx hby at_55 (pc' := 56) rfl (z := (3 : Int32)) rfl ?_
    refine Gol.iand X9 hx hby at_56 (pc' := 57) rfl rfl ?_
    rw [hk]
    refine Gol.aaload X9 hx hby hZ e9 V_b1 at_57 (pc' := 58) rfl rfl ⟨by decide, by decide⟩ (v := (.ref w0)) rfl ?_
    refine Gol.astore X9 hx hby at_58 (pc' := 60) rfl rfl (l' := #[.val (.int p0), .val (.int (0 : Int32)), .val (.int (0 : Int32)), .val (.ref b1), .val (.ref w0)]) rfl ?_
    refine Gol.iloadN X9 hx hby at_60 (pc' := 61) rfl rfl ?_
    refine Gol.iloadN X9 hx hby at_61 (pc' := 62) rfl rfl ?_
    refine Gol.callS X9 hx hby hZ hown 0 [(.int (0 : Int32)), (.int (0 : Int32))] (hw _ (List.mem_of_getElem? (i := 12) rfl)) (hw _ (List.mem_of_getElem? (i := 13) rfl)) (hw _ (List.mem_of_getElem? (i := 3) rfl)) (hw _ (List.mem_of_getElem? (i := 14) rfl)) (by decide) (rm1 l Z a0 hw [] (0 : Int32) (0 : Int32) w0 w1 w2 w3 h9 n0 Zs S_AS_WRITTEN S_CASE_FOLDED S_DIACRITICS_REMOVED S_FOLDED) (by decide) (by decide) e9 (by rw [hml]; rfl) (rest := []) (Nat.le_of_eq rfl) (by decide) (by decide) (lenOf pd_0 rfl) rfl at_62 (pc' := 65) rfl ?_
    intro T10 v10 L10 X10 hQ10
    obtain ⟨rfl, Nq10, eq10⟩ := hQ10
    have N10 := Fr.app N9 Nq10
    show GolF _ _ _ _ _ _ _ T10 m 65 #[.val (.int p0), .val (.int (0 : Int32)), .val (.int (0 : Int32)), .val (.ref b1), .val (.ref w0)] [(.ref (f1 (0 : Int32) (0 : Int32) w0 w1 w2 w3))]
    refine Gol.aload X10 hx hby at_65 (pc' := 67) rfl rfl rfl ?_
    refine Gol.acmp X10 hx hby (pc' := 70) true at_67 rfl rfl (decide_eq_true (congrArg Value.ref (rfl : (f1 (0 : Int32) (0 : Int32) w0 w1 w2 w3) = w0))) (by decide) (by decide) ?_
    refine Gol.iconst X10 hx hby at_70 (pc' := 71) rfl (z := (1 : Int32)) rfl ?_
    refine Gol.goto X10 hx hby at_71 (pc' := 75) (by decide) ?_
    exact Gol.retN X10 hx hby (t := .boolean) Bd.returns (by simp) Bd.notSynchronized at_75 eq10 ⟨rfl, N10⟩ (by decide) (by decide)
  · skip
    have h1 : (p0 &&& (1 : Int32)) = (1 : Int32) := by rw [own_and1, hk]; rfl
    have h2 : (p0 &&& (2 : Int32)) = (0 : Int32) := by rw [own_and2, hk]; rfl
    show GolF _ _ _ _ _ _ _ s₁ m 0 #[.val (.int p0), .unset, .unset, .unset, .unset] []
    refine Gol.iloadN X0 hx hby at_0 (pc' := 1) rfl rfl ?_
    refine Gol.iconst X0 hx hby at_1 (pc' := 2) rfl (z := (1 : Int32)) rfl ?_
    refine Gol.iand X0 hx hby at_2 (pc' := 3) rfl rfl ?_
    refine Gol.ifNo X0 hx hby at_3 (pc' := 6) rfl ((if0 _ _).trans (feq (by rw [h1]; decide)).1) ?_
    refine Gol.iconst X0 hx hby at_6 (pc' := 7) rfl (z := (1 : Int32)) rfl ?_
    refine Gol.goto X0 hx hby at_7 (pc' := 11) (by decide) ?_
    refine Gol.istoreN X0 hx hby at_11 (pc' := 12) rfl (l' := #[.val (.int p0), .val (.int (1 : Int32)), .unset, .unset, .unset]) rfl ?_
    refine Gol.iloadN X0 hx hby at_12 (pc' := 13) rfl rfl ?_
    refine Gol.iconst X0 hx hby at_13 (pc' := 14) rfl (z := (2 : Int32)) rfl ?_
    refine Gol.iand X0 hx hby at_14 (pc' := 15) rfl rfl ?_
    refine Gol.ifYes X0 hx hby at_15 (pc' := 22) (by decide) ((if0 _ _).trans (teq h2).1) ?_
    refine Gol.iconst X0 hx hby at_22 (pc' := 23) rfl (z := (0 : Int32)) rfl ?_
    refine Gol.istoreN X0 hx hby at_23 (pc' := 24) rfl (l' := #[.val (.int p0), .val (.int (1 : Int32)), .val (.int (0 : Int32)), .unset, .unset]) rfl ?_
    refine Gol.iconst X0 hx hby at_24 (pc' := 25) rfl (z := (4 : Int32)) rfl ?_
    refine Gol.newref X0 hx hby hZ hown (hw _ (List.mem_of_getElem? (i := 0) rfl)) (hw _ (List.mem_of_getElem? (i := 1) rfl)) eh0 4 at_25 (pc' := 28) rfl (by decide) (by decide) (by decide) (by decide) (by decide) ?_
    intro T11 h11 k11 b11 g11 X11 e11 E11 A11 O11
    have lo_w0_b11 : w0 < b11 := Nat.lt_of_lt_of_le E_w0.lt (Nat.le_of_eq g11.symm)
    have ne_w0_b11 : w0 ≠ b11 := Nat.ne_of_lt lo_w0_b11
    have lo_w1_b11 : w1 < b11 := Nat.lt_of_lt_of_le E_w1.lt (Nat.le_of_eq g11.symm)
    have ne_w1_b11 : w1 ≠ b11 := Nat.ne_of_lt lo_w1_b11
    have lo_w2_b11 : w2 < b11 := Nat.lt_of_lt_of_le E_w2.lt (Nat.le_of_eq g11.symm)
    have ne_w2_b11 : w2 ≠ b11 := Nat.ne_of_lt lo_w2_b11
    have lo_w3_b11 : w3 < b11 := Nat.lt_of_lt_of_le E_w3.lt (Nat.le_of_eq g11.symm)
    have ne_w3_b11 : w3 ≠ b11 := Nat.ne_of_lt lo_w3_b11
    have g_b11 : n0 ≤ b11 := Nat.le_trans Zs (Nat.le_of_eq g11.symm)
    have E_w0 := E_w0.ext E11
    have E_w1 := E_w1.ext E11
    have E_w2 := E_w2.ext E11
    have E_w3 := E_w3.ext E11
    have S_AS_WRITTEN := S_AS_WRITTEN.ext E11
    have S_CASE_FOLDED := S_CASE_FOLDED.ext E11
    have S_DIACRITICS_REMOVED := S_DIACRITICS_REMOVED.ext E11
    have S_FOLDED := S_FOLDED.ext E11
    have Zs := Nat.le_trans Zs E11.1
    have V_b11 : Arv Z h11 b11 k11 (.object "com/example/reqwery/reqwery/fulltext/TokenForm") (4 : Int32) [.null, .null, .null, .null] .null := A11.pad (pad_rep [] .null 4)
    refine Gol.dup X11 hx hby at_28 (pc' := 29) rfl rfl ?_
    refine Gol.iconst X11 hx hby at_29 (pc' := 30) rfl (z := (0 : Int32)) rfl ?_
    refine Gol.getS X11 hx hby hZ hown (host := "") (Or.inl (hw _ (List.mem_of_getElem? (i := 2) rfl))) Via.refl e11 S_AS_WRITTEN at_30 (pc' := 33) rfl ?_
    intro T12 X12 e12
    refine Gol.aastore X12 hx hby hZ e12 V_b11 at_33 (pc' := 34) rfl ⟨by decide, by decide⟩ 0 rfl (Nat.le_of_ble_eq_true rfl) rfl rfl (fun _ Ar q => Sto.ofV Ar q O11 (Ins.self E_w0)) ?_
    intro T13 h13 X13 e13 W13 A13
    have V_b11 : Arv Z h13 b11 k11 (.object "com/example/reqwery/reqwery/fulltext/TokenForm") (4 : Int32) [(.ref w0), .null, .null, .null] .null := A13
    have E_w0 := E_w0.wr W13
    have E_w1 := E_w1.wr W13
    have E_w2 := E_w2.wr W13
    have E_w3 := E_w3.wr W13
    have S_AS_WRITTEN := S_AS_WRITTEN.wr W13
    have S_CASE_FOLDED := S_CASE_FOLDED.wr W13
    have S_DIACRITICS_REMOVED := S_DIACRITICS_REMOVED.wr W13
    have S_FOLDED := S_FOLDED.wr W13
    have Zs := Nat.le_trans Zs (Keep.of_wr W13).1
    have N13 := Fr.snoc X13 N0 g_b11
    refine Gol.dup X13 hx hby at_34 (pc' := 35) rfl rfl ?_
    refine Gol.iconst X13 hx hby at_35 (pc' := 36) rfl (z := (1 : Int32)) rfl ?_
    refine Gol.getS X13 hx hby hZ hown (host := "") (Or.inl (hw _ (List.mem_of_getElem? (i := 6) rfl))) Via.refl e13 S_CASE_FOLDED at_36 (pc' := 39) rfl ?_
    intro T14 X14 e14
    refine Gol.aastore X14 hx hby hZ e14 V_b11 at_39 (pc' := 40) rfl ⟨by decide, by decide⟩ 1 rfl (Nat.le_of_ble_eq_true rfl) rfl rfl (fun _ Ar q => Sto.ofV Ar q O11 (Ins.self E_w1)) ?_
    intro T15 h15 X15 e15 W15 A15
    have V_b11 : Arv Z h15 b11 k11 (.object "com/example/reqwery/reqwery/fulltext/TokenForm") (4 : Int32) [(.ref w0), (.ref w1), .null, .null] .null := A15
    have E_w0 := E_w0.wr W15
    have E_w1 := E_w1.wr W15
    have E_w2 := E_w2.wr W15
    have E_w3 := E_w3.wr W15
    have S_AS_WRITTEN := S_AS_WRITTEN.wr W15
    have S_CASE_FOLDED := S_CASE_FOLDED.wr W15
    have S_DIACRITICS_REMOVED := S_DIACRITICS_REMOVED.wr W15
    have S_FOLDED := S_FOLDED.wr W15
    have Zs := Nat.le_trans Zs (Keep.of_wr W15).1
    have N15 := Fr.snoc X15 N13 g_b11
    refine Gol.dup X15 hx hby at_40 (pc' := 41) rfl rfl ?_
    refine Gol.iconst X15 hx hby at_41 (pc' := 42) rfl (z := (2 : Int32)) rfl ?_
    refine Gol.getS X15 hx hby hZ hown (host := "") (Or.inl (hw _ (List.mem_of_getElem? (i := 8) rfl))) Via.refl e15 S_DIACRITICS_REMOVED at_42 (pc' := 45) rfl ?_
    intro T16 X16 e16
    refine Gol.aastore X16 hx hby hZ e16 V_b11 at_45 (pc' := 46) rfl ⟨by decide, by decide⟩ 2 rfl (Nat.le_of_ble_eq_true rfl) rfl rfl (fun _ Ar q => Sto.ofV Ar q O11 (Ins.self E_w2)) ?_
    intro T17 h17 X17 e17 W17 A17
    have V_b11 : Arv Z h17 b11 k11 (.object "com/example/reqwery/reqwery/fulltext/TokenForm") (4 : Int32) [(.ref w0), (.ref w1), (.ref w2), .null] .null := A17
    have E_w0 := E_w0.wr W17
    have E_w1 := E_w1.wr W17
    have E_w2 := E_w2.wr W17
    have E_w3 := E_w3.wr W17
    have S_AS_WRITTEN := S_AS_WRITTEN.wr W17
    have S_CASE_FOLDED := S_CASE_FOLDED.wr W17
    have S_DIACRITICS_REMOVED := S_DIACRITICS_REMOVED.wr W17
    have S_FOLDED := S_FOLDED.wr W17
    have Zs := Nat.le_trans Zs (Keep.of_wr W17).1
    have N17 := Fr.snoc X17 N15 g_b11
    refine Gol.dup X17 hx hby at_46 (pc' := 47) rfl rfl ?_
    refine Gol.iconst X17 hx hby at_47 (pc' := 48) rfl (z := (3 : Int32)) rfl ?_
    refine Gol.getS X17 hx hby hZ hown (host := "") (Or.inl (hw _ (List.mem_of_getElem? (i := 10) rfl))) Via.refl e17 S_FOLDED at_48 (pc' := 51) rfl ?_
    intro T18 X18 e18
    refine Gol.aastore X18 hx hby hZ e18 V_b11 at_51 (pc' := 52) rfl ⟨by decide, by decide⟩ 3 rfl (Nat.le_of_ble_eq_true rfl) rfl rfl (fun _ Ar q => Sto.ofV Ar q O11 (Ins.self E_w3)) ?_
    intro T19 h19 X19 e19 W19 A19
    have V_b11 : Arv Z h19 b11 k11 (.object "com/example/reqwery/reqwery/fulltext/TokenForm") (4 : Int32) [(.ref w0), (.ref w1), (.ref w2), (.ref w3)] .null := A19
    have E_w0 := E_w0.wr W19
    have E_w1 := E_w1.wr W19
    have E_w2 := E_w2.wr W19
    have E_w3 := E_w3.wr W19
    have S_AS_WRITTEN := S_AS_WRITTEN.wr W19
    have S_CASE_FOLDED := S_CASE_FOLDED.wr W19
    have S_DIACRITICS_REMOVED := S_DIACRITICS_REMOVED.wr W19
    have S_FOLDED := S_FOLDED.wr W19
    have Zs := Nat.le_trans Zs (Keep.of_wr W19).1
    have N19 := Fr.snoc X19 N17 g_b11
    refine Gol.astoreN X19 hx hby at_52 (pc' := 53) rfl rfl (l' := #[.val (.int p0), .val (.int (1 : Int32)), .val (.int (0 : Int32)), .val (.ref b11), .unset]) rfl ?_
    refine Gol.aloadN X19 hx hby at_53 (pc' := 54) rfl rfl rfl ?_
    refine Gol.iloadN X19 hx hby at_54 (pc' := 55) rfl rfl ?_
    refine Gol.iconst X19 hx hby at_55 (pc' := 56) rfl (z := (3 : Int32)) rfl ?_
    refine Gol.iand X19 hx hby at_56 (pc' := 57) rfl rfl ?_
    rw [hk]
    refine Gol.aaload X19 hx hby hZ e19 V_b11 at_57 (pc' := 58) rfl rfl ⟨by decide, by decide⟩ (v := (.ref w1)) rfl ?_
    refine Gol.astore X19 hx hby at_58 (pc' := 60) rfl rfl (l' := #[.val (.int p0), .val (.int (1 : Int32)), .val (.int (0 : Int32)), .val (.ref b11), .val (.ref w1)]) rfl ?_
    refine Gol.iloadN X19 hx hby at_60 (pc' := 61) rfl rfl ?_
    refine Gol.iloadN X19 hx hby at_61 (pc' := 62) rfl rfl ?_
    refine Gol.callS X19 hx hby hZ hown 0 [(.int (1 : Int32)), (.int (0 : Int32))] (hw _ (List.mem_of_getElem? (i := 12) rfl)) (hw _ (List.mem_of_getElem? (i := 13) rfl)) (hw _ (List.mem_of_getElem? (i := 3) rfl)) (hw _ (List.mem_of_getElem? (i := 14) rfl)) (by decide) (rm1 l Z a0 hw [] (1 : Int32) (0 : Int32) w0 w1 w2 w3 h19 n0 Zs S_AS_WRITTEN S_CASE_FOLDED S_DIACRITICS_REMOVED S_FOLDED) (by decide) (by decide) e19 (by rw [hml]; rfl) (rest := []) (Nat.le_of_eq rfl) (by decide) (by decide) (lenOf pd_0 rfl) rfl at_62 (pc' := 65) rfl ?_
    intro T20 v20 L20 X20 hQ20
    obtain ⟨rfl, Nq20, eq20⟩ := hQ20
    have N20 := Fr.app N19 Nq20
    show GolF _ _ _ _ _ _ _ T20 m 65 #[.val (.int p0), .val (.int (1 : Int32)), .val (.int (0 : Int32)), .val (.ref b11), .val (.ref w1)] [(.ref (f1 (1 : Int32) (0 : Int32) w0 w1 w2 w3))]
    refine Gol.aload X20 hx hby at_65 (pc' := 67) rfl rfl rfl ?_
    refine Gol.acmp X20 hx hby (pc' := 70) true at_67 rfl rfl (decide_eq_true (congrArg Value.ref (rfl : (f1 (1 : Int32) (0 : Int32) w0 w1 w2 w3) = w1))) (by decide) (by decide) ?_
    refine Gol.iconst X20 hx hby at_70 (pc' := 71) rfl (z := (1 : Int32)) rfl ?_
    refine Gol.goto X20 hx hby at_71 (pc' := 75) (by decide) ?_
    exact Gol.retN X20 hx hby (t := .boolean) Bd.returns (by simp) Bd.notSynchronized at_75 eq20 ⟨rfl, N20⟩ (by decide) (by decide)
  · skip
    have h1 : (p0 &&& (1 : Int32)) = (0 : Int32) := by rw [own_and1, hk]; rfl
    have h2 : (p0 &&& (2 : Int32)) = (2 : Int32) := by rw [own_and2, hk]; rfl
    show GolF _ _ _ _ _ _ _ s₁ m 0 #[.val (.int p0), .unset, .unset, .unset, .unset] []
    refine Gol.iloadN X0 hx hby at_0 (pc' := 1) rfl rfl ?_
    refine Gol.iconst X0 hx hby at_1 (pc' := 2) rfl (z := (1 : Int32)) rfl ?_
    refine Gol.iand X0 hx hby at_2 (pc' := 3) rfl rfl ?_
    refine Gol.ifYes X0 hx hby at_3 (pc' := 10) (by decide) ((if0 _ _).trans (teq h1).1) ?_
    refine Gol.iconst X0 hx hby at_10 (pc' := 11) rfl (z := (0 : Int32)) rfl ?_
    refine Gol.istoreN X0 hx hby at_11 (pc' := 12) rfl (l' := #[.val (.int p0), .val (.int (0 : Int32)), .unset, .unset, .unset]) rfl ?_
    refine Gol.iloadN X0 hx hby at_12 (pc' := 13) rfl rfl ?_
    refine Gol.iconst X0 hx hby at_13 (pc' := 14) rfl (z := (2 : Int32)) rfl ?_
    refine Gol.iand X0 hx hby at_14 (pc' := 15) rfl rfl ?_
    refine Gol.ifNo X0 hx hby at_15 (pc' := 18) rfl ((if0 _ _).trans (feq (by rw [h2]; decide)).1) ?_
    refine Gol.iconst X0 hx hby at_18 (pc' := 19) rfl (z := (1 : Int32)) rfl ?_
    refine Gol.goto X0 hx hby at_19 (pc' := 23) (by decide) ?_
    refine Gol.istoreN X0 hx hby at_23 (pc' := 24) rfl (l' := #[.val (.int p0), .val (.int (0 : Int32)), .val (.int (1 : Int32)), .unset, .unset]) rfl ?_
    refine Gol.iconst X0 hx hby at_24 (pc' := 25) rfl (z := (4 : Int32)) rfl ?_
    refine Gol.newref X0 hx hby hZ hown (hw _ (List.mem_of_getElem? (i := 0) rfl)) (hw _ (List.mem_of_getElem? (i := 1) rfl)) eh0 4 at_25 (pc' := 28) rfl (by decide) (by decide) (by decide) (by decide) (by decide) ?_
    intro T21 h21 k21 b21 g21 X21 e21 E21 A21 O21
    have lo_w0_b21 : w0 < b21 := Nat.lt_of_lt_of_le E_w0.lt (Nat.le_of_eq g21.symm)
    have ne_w0_b21 : w0 ≠ b21 := Nat.ne_of_lt lo_w0_b21
    have lo_w1_b21 : w1 < b21 := Nat.lt_of_lt_of_le E_w1.lt (Nat.le_of_eq g21.symm)
    have ne_w1_b21 : w1 ≠ b21 := Nat.ne_of_lt lo_w1_b21
    have lo_w2_b21 : w2 < b21 := Nat.lt_of_lt_of_le E_w2.lt (Nat.le_of_eq g21.symm)
    have ne_w2_b21 : w2 ≠ b21 := Nat.ne_of_lt lo_w2_b21
    have lo_w3_b21 : w3 < b21 := Nat.lt_of_lt_of_le E_w3.lt (Nat.le_of_eq g21.symm)
    have ne_w3_b21 : w3 ≠ b21 := Nat.ne_of_lt lo_w3_b21
    have g_b21 : n0 ≤ b21 := Nat.le_trans Zs (Nat.le_of_eq g21.symm)
    have E_w0 := E_w0.ext E21
    have E_w1 := E_w1.ext E21
    have E_w2 := E_w2.ext E21
    have E_w3 := E_w3.ext E21
    have S_AS_WRITTEN := S_AS_WRITTEN.ext E21
    have S_CASE_FOLDED := S_CASE_FOLDED.ext E21
    have S_DIACRITICS_REMOVED := S_DIACRITICS_REMOVED.ext E21
    have S_FOLDED := S_FOLDED.ext E21
    have Zs := Nat.le_trans Zs E21.1
    have V_b21 : Arv Z h21 b21 k21 (.object "com/example/reqwery/reqwery/fulltext/TokenForm") (4 : Int32) [.null, .null, .null, .null] .null := A21.pad (pad_rep [] .null 4)
    refine Gol.dup X21 hx hby at_28 (pc' := 29) rfl rfl ?_
    refine Gol.iconst X21 hx hby at_29 (pc' := 30) rfl (z := (0 : Int32)) rfl ?_
    refine Gol.getS X21 hx hby hZ hown (host := "") (Or.inl (hw _ (List.mem_of_getElem? (i := 2) rfl))) Via.refl e21 S_AS_WRITTEN at_30 (pc' := 33) rfl ?_
    intro T22 X22 e22
    refine Gol.aastore X22 hx hby hZ e22 V_b21 at_33 (pc' := 34) rfl ⟨by decide, by decide⟩ 0 rfl (Nat.le_of_ble_eq_true rfl) rfl rfl (fun _ Ar q => Sto.ofV Ar q O21 (Ins.self E_w0)) ?_
    intro T23 h23 X23 e23 W23 A23
    have V_b21 : Arv Z h23 b21 k21 (.object "com/example/reqwery/reqwery/fulltext/TokenForm") (4 : Int32) [(.ref w0), .null, .null, .null] .null := A23
    have E_w0 := E_w0.wr W23
    have E_w1 := E_w1.wr W23
    have E_w2 := E_w2.wr W23
    have E_w3 := E_w3.wr W23
    have S_AS_WRITTEN := S_AS_WRITTEN.wr W23
    have S_CASE_FOLDED := S_CASE_FOLDED.wr W23
    have S_DIACRITICS_REMOVED := S_DIACRITICS_REMOVED.wr W23
    have S_FOLDED := S_FOLDED.wr W23
    have Zs := Nat.le_trans Zs (Keep.of_wr W23).1
    have N23 := Fr.snoc X23 N0 g_b21
    refine Gol.dup X23 hx hby at_34 (pc' := 35) rfl rfl ?_
    refine Gol.iconst X23 hx hby at_35 (pc' := 36) rfl (z := (1 : Int32)) rfl ?_
    refine Gol.getS X23 hx hby hZ hown (host := "") (Or.inl (hw _ (List.mem_of_getElem? (i := 6) rfl))) Via.refl e23 S_CASE_FOLDED at_36 (pc' := 39) rfl ?_
    intro T24 X24 e24
    refine Gol.aastore X24 hx hby hZ e24 V_b21 at_39 (pc' := 40) rfl ⟨by decide, by decide⟩ 1 rfl (Nat.le_of_ble_eq_true rfl) rfl rfl (fun _ Ar q => Sto.ofV Ar q O21 (Ins.self E_w1)) ?_
    intro T25 h25 X25 e25 W25 A25
    have V_b21 : Arv Z h25 b21 k21 (.object "com/example/reqwery/reqwery/fulltext/TokenForm") (4 : Int32) [(.ref w0), (.ref w1), .null, .null] .null := A25
    have E_w0 := E_w0.wr W25
    have E_w1 := E_w1.wr W25
    have E_w2 := E_w2.wr W25
    have E_w3 := E_w3.wr W25
    have S_AS_WRITTEN := S_AS_WRITTEN.wr W25
    have S_CASE_FOLDED := S_CASE_FOLDED.wr W25
    have S_DIACRITICS_REMOVED := S_DIACRITICS_REMOVED.wr W25
    have S_FOLDED := S_FOLDED.wr W25
    have Zs := Nat.le_trans Zs (Keep.of_wr W25).1
    have N25 := Fr.snoc X25 N23 g_b21
    refine Gol.dup X25 hx hby at_40 (pc' := 41) rfl rfl ?_
    refine Gol.iconst X25 hx hby at_41 (pc' := 42) rfl (z := (2 : Int32)) rfl ?_
    refine Gol.getS X25 hx hby hZ hown (host := "") (Or.inl (hw _ (List.mem_of_getElem? (i := 8) rfl))) Via.refl e25 S_DIACRITICS_REMOVED at_42 (pc' := 45) rfl ?_
    intro T26 X26 e26
    refine Gol.aastore X26 hx hby hZ e26 V_b21 at_45 (pc' := 46) rfl ⟨by decide, by decide⟩ 2 rfl (Nat.le_of_ble_eq_true rfl) rfl rfl (fun _ Ar q => Sto.ofV Ar q O21 (Ins.self E_w2)) ?_
    intro T27 h27 X27 e27 W27 A27
    have V_b21 : Arv Z h27 b21 k21 (.object "com/example/reqwery/reqwery/fulltext/TokenForm") (4 : Int32) [(.ref w0), (.ref w1), (.ref w2), .null] .null := A27
    have E_w0 := E_w0.wr W27
    have E_w1 := E_w1.wr W27
    have E_w2 := E_w2.wr W27
    have E_w3 := E_w3.wr W27
    have S_AS_WRITTEN := S_AS_WRITTEN.wr W27
    have S_CASE_FOLDED := S_CASE_FOLDED.wr W27
    have S_DIACRITICS_REMOVED := S_DIACRITICS_REMOVED.wr W27
    have S_FOLDED := S_FOLDED.wr W27
    have Zs := Nat.le_trans Zs (Keep.of_wr W27).1
    have N27 := Fr.snoc X27 N25 g_b21
    refine Gol.dup X27 hx hby at_46 (pc' := 47) rfl rfl ?_
    refine Gol.iconst X27 hx hby at_47 (pc' := 48) rfl (z := (3 : Int32)) rfl ?_
    refine Gol.getS X27 hx hby hZ hown (host := "") (Or.inl (hw _ (List.mem_of_getElem? (i := 10) rfl))) Via.refl e27 S_FOLDED at_48 (pc' := 51) rfl ?_
    intro T28 X28 e28
    refine Gol.aastore X28 hx hby hZ e28 V_b21 at_51 (pc' := 52) rfl ⟨by decide, by decide⟩ 3 rfl (Nat.le_of_ble_eq_true rfl) rfl rfl (fun _ Ar q => Sto.ofV Ar q O21 (Ins.self E_w3)) ?_
    intro T29 h29 X29 e29 W29 A29
    have V_b21 : Arv Z h29 b21 k21 (.object "com/example/reqwery/reqwery/fulltext/TokenForm") (4 : Int32) [(.ref w0), (.ref w1), (.ref w2), (.ref w3)] .null := A29
    have E_w0 := E_w0.wr W29
    have E_w1 := E_w1.wr W29
    have E_w2 := E_w2.wr W29
    have E_w3 := E_w3.wr W29
    have S_AS_WRITTEN := S_AS_WRITTEN.wr W29
    have S_CASE_FOLDED := S_CASE_FOLDED.wr W29
    have S_DIACRITICS_REMOVED := S_DIACRITICS_REMOVED.wr W29
    have S_FOLDED := S_FOLDED.wr W29
    have Zs := Nat.le_trans Zs (Keep.of_wr W29).1
    have N29 := Fr.snoc X29 N27 g_b21
    refine Gol.astoreN X29 hx hby at_52 (pc' := 53) rfl rfl (l' := #[.val (.int p0), .val (.int (0 : Int32)), .val (.int (1 : Int32)), .val (.ref b21), .unset]) rfl ?_
    refine Gol.aloadN X29 hx hby at_53 (pc' := 54) rfl rfl rfl ?_
    refine Gol.iloadN X29 hx hby at_54 (pc' := 55) rfl rfl ?_
    refine Gol.iconst X29 hx hby at_55 (pc' := 56) rfl (z := (3 : Int32)) rfl ?_
    refine Gol.iand X29 hx hby at_56 (pc' := 57) rfl rfl ?_
    rw [hk]
    refine Gol.aaload X29 hx hby hZ e29 V_b21 at_57 (pc' := 58) rfl rfl ⟨by decide, by decide⟩ (v := (.ref w2)) rfl ?_
    refine Gol.astore X29 hx hby at_58 (pc' := 60) rfl rfl (l' := #[.val (.int p0), .val (.int (0 : Int32)), .val (.int (1 : Int32)), .val (.ref b21), .val (.ref w2)]) rfl ?_
    refine Gol.iloadN X29 hx hby at_60 (pc' := 61) rfl rfl ?_
    refine Gol.iloadN X29 hx hby at_61 (pc' := 62) rfl rfl ?_
    refine Gol.callS X29 hx hby hZ hown 0 [(.int (0 : Int32)), (.int (1 : Int32))] (hw _ (List.mem_of_getElem? (i := 12) rfl)) (hw _ (List.mem_of_getElem? (i := 13) rfl)) (hw _ (List.mem_of_getElem? (i := 3) rfl)) (hw _ (List.mem_of_getElem? (i := 14) rfl)) (by decide) (rm1 l Z a0 hw [] (0 : Int32) (1 : Int32) w0 w1 w2 w3 h29 n0 Zs S_AS_WRITTEN S_CASE_FOLDED S_DIACRITICS_REMOVED S_FOLDED) (by decide) (by decide) e29 (by rw [hml]; rfl) (rest := []) (Nat.le_of_eq rfl) (by decide) (by decide) (lenOf pd_0 rfl) rfl at_62 (pc' := 65) rfl ?_
    intro T30 v30 L30 X30 hQ30
    obtain ⟨rfl, Nq30, eq30⟩ := hQ30
    have N30 := Fr.app N29 Nq30
    show GolF _ _ _ _ _ _ _ T30 m 65 #[.val (.int p0), .val (.int (0 : Int32)), .val (.int (1 : Int32)), .val (.ref b21), .val (.ref w2)] [(.ref (f1 (0 : Int32) (1 : Int32) w0 w1 w2 w3))]
    refine Gol.aload X30 hx hby at_65 (pc' := 67) rfl rfl rfl ?_
    refine Gol.acmp X30 hx hby (pc' := 70) true at_67 rfl rfl (decide_eq_true (congrArg Value.ref (rfl : (f1 (0 : Int32) (1 : Int32) w0 w1 w2 w3) = w2))) (by decide) (by decide) ?_
    refine Gol.iconst X30 hx hby at_70 (pc' := 71) rfl (z := (1 : Int32)) rfl ?_
    refine Gol.goto X30 hx hby at_71 (pc' := 75) (by decide) ?_
    exact Gol.retN X30 hx hby (t := .boolean) Bd.returns (by simp) Bd.notSynchronized at_75 eq30 ⟨rfl, N30⟩ (by decide) (by decide)
  · skip
    have h1 : (p0 &&& (1 : Int32)) = (1 : Int32) := by rw [own_and1, hk]; rfl
    have h2 : (p0 &&& (2 : Int32)) = (2 : Int32) := by rw [own_and2, hk]; rfl
    show GolF _ _ _ _ _ _ _ s₁ m 0 #[.val (.int p0), .unset, .unset, .unset, .unset] []
    refine Gol.iloadN X0 hx hby at_0 (pc' := 1) rfl rfl ?_
    refine Gol.iconst X0 hx hby at_1 (pc' := 2) rfl (z := (1 : Int32)) rfl ?_
    refine Gol.iand X0 hx hby at_2 (pc' := 3) rfl rfl ?_
    refine Gol.ifNo X0 hx hby at_3 (pc' := 6) rfl ((if0 _ _).trans (feq (by rw [h1]; decide)).1) ?_
    refine Gol.iconst X0 hx hby at_6 (pc' := 7) rfl (z := (1 : Int32)) rfl ?_
    refine Gol.goto X0 hx hby at_7 (pc' := 11) (by decide) ?_
    refine Gol.istoreN X0 hx hby at_11 (pc' := 12) rfl (l' := #[.val (.int p0), .val (.int (1 : Int32)), .unset, .unset, .unset]) rfl ?_
    refine Gol.iloadN X0 hx hby at_12 (pc' := 13) rfl rfl ?_
    refine Gol.iconst X0 hx hby at_13 (pc' := 14) rfl (z := (2 : Int32)) rfl ?_
    refine Gol.iand X0 hx hby at_14 (pc' := 15) rfl rfl ?_
    refine Gol.ifNo X0 hx hby at_15 (pc' := 18) rfl ((if0 _ _).trans (feq (by rw [h2]; decide)).1) ?_
    refine Gol.iconst X0 hx hby at_18 (pc' := 19) rfl (z := (1 : Int32)) rfl ?_
    refine Gol.goto X0 hx hby at_19 (pc' := 23) (by decide) ?_
    refine Gol.istoreN X0 hx hby at_23 (pc' := 24) rfl (l' := #[.val (.int p0), .val (.int (1 : Int32)), .val (.int (1 : Int32)), .unset, .unset]) rfl ?_
    refine Gol.iconst X0 hx hby at_24 (pc' := 25) rfl (z := (4 : Int32)) rfl ?_
    refine Gol.newref X0 hx hby hZ hown (hw _ (List.mem_of_getElem? (i := 0) rfl)) (hw _ (List.mem_of_getElem? (i := 1) rfl)) eh0 4 at_25 (pc' := 28) rfl (by decide) (by decide) (by decide) (by decide) (by decide) ?_
    intro T31 h31 k31 b31 g31 X31 e31 E31 A31 O31
    have lo_w0_b31 : w0 < b31 := Nat.lt_of_lt_of_le E_w0.lt (Nat.le_of_eq g31.symm)
    have ne_w0_b31 : w0 ≠ b31 := Nat.ne_of_lt lo_w0_b31
    have lo_w1_b31 : w1 < b31 := Nat.lt_of_lt_of_le E_w1.lt (Nat.le_of_eq g31.symm)
    have ne_w1_b31 : w1 ≠ b31 := Nat.ne_of_lt lo_w1_b31
    have lo_w2_b31 : w2 < b31 := Nat.lt_of_lt_of_le E_w2.lt (Nat.le_of_eq g31.symm)
    have ne_w2_b31 : w2 ≠ b31 := Nat.ne_of_lt lo_w2_b31
    have lo_w3_b31 : w3 < b31 := Nat.lt_of_lt_of_le E_w3.lt (Nat.le_of_eq g31.symm)
    have ne_w3_b31 : w3 ≠ b31 := Nat.ne_of_lt lo_w3_b31
    have g_b31 : n0 ≤ b31 := Nat.le_trans Zs (Nat.le_of_eq g31.symm)
    have E_w0 := E_w0.ext E31
    have E_w1 := E_w1.ext E31
    have E_w2 := E_w2.ext E31
    have E_w3 := E_w3.ext E31
    have S_AS_WRITTEN := S_AS_WRITTEN.ext E31
    have S_CASE_FOLDED := S_CASE_FOLDED.ext E31
    have S_DIACRITICS_REMOVED := S_DIACRITICS_REMOVED.ext E31
    have S_FOLDED := S_FOLDED.ext E31
    have Zs := Nat.le_trans Zs E31.1
    have V_b31 : Arv Z h31 b31 k31 (.object "com/example/reqwery/reqwery/fulltext/TokenForm") (4 : Int32) [.null, .null, .null, .null] .null := A31.pad (pad_rep [] .null 4)
    refine Gol.dup X31 hx hby at_28 (pc' := 29) rfl rfl ?_
    refine Gol.iconst X31 hx hby at_29 (pc' := 30) rfl (z := (0 : Int32)) rfl ?_
    refine Gol.getS X31 hx hby hZ hown (host := "") (Or.inl (hw _ (List.mem_of_getElem? (i := 2) rfl))) Via.refl e31 S_AS_WRITTEN at_30 (pc' := 33) rfl ?_
    intro T32 X32 e32
    refine Gol.aastore X32 hx hby hZ e32 V_b31 at_33 (pc' := 34) rfl ⟨by decide, by decide⟩ 0 rfl (Nat.le_of_ble_eq_true rfl) rfl rfl (fun _ Ar q => Sto.ofV Ar q O31 (Ins.self E_w0)) ?_
    intro T33 h33 X33 e33 W33 A33
    have V_b31 : Arv Z h33 b31 k31 (.object "com/example/reqwery/reqwery/fulltext/TokenForm") (4 : Int32) [(.ref w0), .null, .null, .null] .null := A33
    have E_w0 := E_w0.wr W33
    have E_w1 := E_w1.wr W33
    have E_w2 := E_w2.wr W33
    have E_w3 := E_w3.wr W33
    have S_AS_WRITTEN := S_AS_WRITTEN.wr W33
    have S_CASE_FOLDED := S_CASE_FOLDED.wr W33
    have S_DIACRITICS_REMOVED := S_DIACRITICS_REMOVED.wr W33
    have S_FOLDED := S_FOLDED.wr W33
    have Zs := Nat.le_trans Zs (Keep.of_wr W33).1
    have N33 := Fr.snoc X33 N0 g_b31
    refine Gol.dup X33 hx hby at_34 (pc' := 35) rfl rfl ?_
    refine Gol.iconst X33 hx hby at_35 (pc' := 36) rfl (z := (1 : Int32)) rfl ?_
    refine Gol.getS X33 hx hby hZ hown (host := "") (Or.inl (hw _ (List.mem_of_getElem? (i := 6) rfl))) Via.refl e33 S_CASE_FOLDED at_36 (pc' := 39) rfl ?_
    intro T34 X34 e34
    refine Gol.aastore X34 hx hby hZ e34 V_b31 at_39 (pc' := 40) rfl ⟨by decide, by decide⟩ 1 rfl (Nat.le_of_ble_eq_true rfl) rfl rfl (fun _ Ar q => Sto.ofV Ar q O31 (Ins.self E_w1)) ?_
    intro T35 h35 X35 e35 W35 A35
    have V_b31 : Arv Z h35 b31 k31 (.object "com/example/reqwery/reqwery/fulltext/TokenForm") (4 : Int32) [(.ref w0), (.ref w1), .null, .null] .null := A35
    have E_w0 := E_w0.wr W35
    have E_w1 := E_w1.wr W35
    have E_w2 := E_w2.wr W35
    have E_w3 := E_w3.wr W35
    have S_AS_WRITTEN := S_AS_WRITTEN.wr W35
    have S_CASE_FOLDED := S_CASE_FOLDED.wr W35
    have S_DIACRITICS_REMOVED := S_DIACRITICS_REMOVED.wr W35
    have S_FOLDED := S_FOLDED.wr W35
    have Zs := Nat.le_trans Zs (Keep.of_wr W35).1
    have N35 := Fr.snoc X35 N33 g_b31
    refine Gol.dup X35 hx hby at_40 (pc' := 41) rfl rfl ?_
    refine Gol.iconst X35 hx hby at_41 (pc' := 42) rfl (z := (2 : Int32)) rfl ?_
    refine Gol.getS X35 hx hby hZ hown (host := "") (Or.inl (hw _ (List.mem_of_getElem? (i := 8) rfl))) Via.refl e35 S_DIACRITICS_REMOVED at_42 (pc' := 45) rfl ?_
    intro T36 X36 e36
    refine Gol.aastore X36 hx hby hZ e36 V_b31 at_45 (pc' := 46) rfl ⟨by decide, by decide⟩ 2 rfl (Nat.le_of_ble_eq_true rfl) rfl rfl (fun _ Ar q => Sto.ofV Ar q O31 (Ins.self E_w2)) ?_
    intro T37 h37 X37 e37 W37 A37
    have V_b31 : Arv Z h37 b31 k31 (.object "com/example/reqwery/reqwery/fulltext/TokenForm") (4 : Int32) [(.ref w0), (.ref w1), (.ref w2), .null] .null := A37
    have E_w0 := E_w0.wr W37
    have E_w1 := E_w1.wr W37
    have E_w2 := E_w2.wr W37
    have E_w3 := E_w3.wr W37
    have S_AS_WRITTEN := S_AS_WRITTEN.wr W37
    have S_CASE_FOLDED := S_CASE_FOLDED.wr W37
    have S_DIACRITICS_REMOVED := S_DIACRITICS_REMOVED.wr W37
    have S_FOLDED := S_FOLDED.wr W37
    have Zs := Nat.le_trans Zs (Keep.of_wr W37).1
    have N37 := Fr.snoc X37 N35 g_b31
    refine Gol.dup X37 hx hby at_46 (pc' := 47) rfl rfl ?_
    refine Gol.iconst X37 hx hby at_47 (pc' := 48) rfl (z := (3 : Int32)) rfl ?_
    refine Gol.getS X37 hx hby hZ hown (host := "") (Or.inl (hw _ (List.mem_of_getElem? (i := 10) rfl))) Via.refl e37 S_FOLDED at_48 (pc' := 51) rfl ?_
    intro T38 X38 e38
    refine Gol.aastore X38 hx hby hZ e38 V_b31 at_51 (pc' := 52) rfl ⟨by decide, by decide⟩ 3 rfl (Nat.le_of_ble_eq_true rfl) rfl rfl (fun _ Ar q => Sto.ofV Ar q O31 (Ins.self E_w3)) ?_
    intro T39 h39 X39 e39 W39 A39
    have V_b31 : Arv Z h39 b31 k31 (.object "com/example/reqwery/reqwery/fulltext/TokenForm") (4 : Int32) [(.ref w0), (.ref w1), (.ref w2), (.ref w3)] .null := A39
    have E_w0 := E_w0.wr W39
    have E_w1 := E_w1.wr W39
    have E_w2 := E_w2.wr W39
    have E_w3 := E_w3.wr W39
    have S_AS_WRITTEN := S_AS_WRITTEN.wr W39
    have S_CASE_FOLDED := S_CASE_FOLDED.wr W39
    have S_DIACRITICS_REMOVED := S_DIACRITICS_REMOVED.wr W39
    have S_FOLDED := S_FOLDED.wr W39
    have Zs := Nat.le_trans Zs (Keep.of_wr W39).1
    have N39 := Fr.snoc X39 N37 g_b31
    refine Gol.astoreN X39 hx hby at_52 (pc' := 53) rfl rfl (l' := #[.val (.int p0), .val (.int (1 : Int32)), .val (.int (1 : Int32)), .val (.ref b31), .unset]) rfl ?_
    refine Gol.aloadN X39 hx hby at_53 (pc' := 54) rfl rfl rfl ?_
    refine Gol.iloadN X39 hx hby at_54 (pc' := 55) rfl rfl ?_
    refine Gol.iconst X39 hx hby at_55 (pc' := 56) rfl (z := (3 : Int32)) rfl ?_
    refine Gol.iand X39 hx hby at_56 (pc' := 57) rfl rfl ?_
    rw [hk]
    refine Gol.aaload X39 hx hby hZ e39 V_b31 at_57 (pc' := 58) rfl rfl ⟨by decide, by decide⟩ (v := (.ref w3)) rfl ?_
    refine Gol.astore X39 hx hby at_58 (pc' := 60) rfl rfl (l' := #[.val (.int p0), .val (.int (1 : Int32)), .val (.int (1 : Int32)), .val (.ref b31), .val (.ref w3)]) rfl ?_
    refine Gol.iloadN X39 hx hby at_60 (pc' := 61) rfl rfl ?_
    refine Gol.iloadN X39 hx hby at_61 (pc' := 62) rfl rfl ?_
    refine Gol.callS X39 hx hby hZ hown 0 [(.int (1 : Int32)), (.int (1 : Int32))] (hw _ (List.mem_of_getElem? (i := 12) rfl)) (hw _ (List.mem_of_getElem? (i := 13) rfl)) (hw _ (List.mem_of_getElem? (i := 3) rfl)) (hw _ (List.mem_of_getElem? (i := 14) rfl)) (by decide) (rm1 l Z a0 hw [] (1 : Int32) (1 : Int32) w0 w1 w2 w3 h39 n0 Zs S_AS_WRITTEN S_CASE_FOLDED S_DIACRITICS_REMOVED S_FOLDED) (by decide) (by decide) e39 (by rw [hml]; rfl) (rest := []) (Nat.le_of_eq rfl) (by decide) (by decide) (lenOf pd_0 rfl) rfl at_62 (pc' := 65) rfl ?_
    intro T40 v40 L40 X40 hQ40
    obtain ⟨rfl, Nq40, eq40⟩ := hQ40
    have N40 := Fr.app N39 Nq40
    show GolF _ _ _ _ _ _ _ T40 m 65 #[.val (.int p0), .val (.int (1 : Int32)), .val (.int (1 : Int32)), .val (.ref b31), .val (.ref w3)] [(.ref (f1 (1 : Int32) (1 : Int32) w0 w1 w2 w3))]
    refine Gol.aload X40 hx hby at_65 (pc' := 67) rfl rfl rfl ?_
    refine Gol.acmp X40 hx hby (pc' := 70) true at_67 rfl rfl (decide_eq_true (congrArg Value.ref (rfl : (f1 (1 : Int32) (1 : Int32) w0 w1 w2 w3) = w3))) (by decide) (by decide) ?_
    refine Gol.iconst X40 hx hby at_70 (pc' := 71) rfl (z := (1 : Int32)) rfl ?_
    refine Gol.goto X40 hx hby at_71 (pc' := 75) (by decide) ?_
    exact Gol.retN X40 hx hby (t := .boolean) Bd.returns (by simp) Bd.notSynchronized at_75 eq40 ⟨rfl, N40⟩ (by decide) (by decide)
set_option maxRecDepth 65536 in
set_option maxHeartbeats 40000000 in
theorem comes_1 {Post : Tables → Env → Array Value → State → Outcome → State → Prop} (hpost : ∀ tb e args s v u, (limb_1_1.after args s (.returned v) u = true ∧ limb_1_2.after args s (.returned v) u = true ∧ True) → FrameEnd s (.returned v) u (Jvm.fieldLocs frame_1_writes args s ++ Jvm.arrayLocs frame_1_arrays args s ++ Jvm.staticLocs frame_1_statics s) 16 128 → Post tb e args s (.returned v) u) :
    ArmFor flags0 classFile x code maxLocals ret World_1 tables_1 room_1 Calls_1 rest_1 Pre_1 Post := by
  intro l hfl _ _ p e ha hc hk s m args below hf hA hF happ hP
  obtain ⟨hcalls, hrest, hpre⟩ := hP
  obtain ⟨-, -, -, hnamed, -, -, -, hat⟩ := (Spec.applies_iff hf).mp happ
  obtain ⟨hg, hn⟩ := and_e (Cond.before_iff.mp (show (Jvm.Cond.and given_1 narrow_1).before args s = true from hpre))
  obtain ⟨gc, gr0⟩ := and_e hg
  obtain ⟨w0, rfl⟩ : ∃ w0 : Value, args = #[w0] := by
    have hs : args.size = 1 := by simpa [Cond.value, given_1] using gc
    obtain ⟨L⟩ := args
    match L, hs with
    | [w0], _ => exact ⟨w0, rfl⟩
  have hw := fun d (hd : d ∈ tables_1) => atoms_spec (ws := Jvm.Cond.code x code maxLocals ret :: tables_1) hat d (List.mem_cons_of_mem _ hd)
  have hfit : Fit s := fun {y c} hc i hi => by
    obtain ⟨ha, rfl⟩ := Array.getElem?_eq_some_iff.mp hc
    have q := List.all_eq_true.mp ((Array.all_eq_true_iff_forall_mem.mp hF) _ (Array.getElem_mem ha)) i (List.mem_range.mpr hi)
    simpa [Array.getElem?_eq_getElem hi] using q
  obtain ⟨i0, ei0⟩ := is_v gr0
  obtain rfl : w0 = (.int i0) := Option.some.inj ei0
  obtain ⟨nx0, nr0⟩ := and_e hn
  obtain ⟨w_AS_WRITTEN, _, _, _, ev_AS_WRITTEN, -⟩ := Cond.exactly_spec (Cond.before_iff.mpr nx0)
  have E_AS_WRITTEN := Exa.start ev_AS_WRITTEN nx0
  have S_AS_WRITTEN := Sta.start ev_AS_WRITTEN (Or.inr ⟨hw _ (List.mem_of_getElem? (i := 3) rfl), hw _ (List.mem_of_getElem? (i := 4) rfl)⟩)
  obtain ⟨nx1, nr1⟩ := and_e nr0
  obtain ⟨w_CASE_FOLDED, _, _, _, ev_CASE_FOLDED, -⟩ := Cond.exactly_spec (Cond.before_iff.mpr nx1)
  have E_CASE_FOLDED := Exa.start ev_CASE_FOLDED nx1
  have S_CASE_FOLDED := Sta.start ev_CASE_FOLDED (Or.inr ⟨hw _ (List.mem_of_getElem? (i := 3) rfl), hw _ (List.mem_of_getElem? (i := 7) rfl)⟩)
  obtain ⟨nx2, nr2⟩ := and_e nr1
  obtain ⟨w_DIACRITICS_REMOVED, _, _, _, ev_DIACRITICS_REMOVED, -⟩ := Cond.exactly_spec (Cond.before_iff.mpr nx2)
  have E_DIACRITICS_REMOVED := Exa.start ev_DIACRITICS_REMOVED nx2
  have S_DIACRITICS_REMOVED := Sta.start ev_DIACRITICS_REMOVED (Or.inr ⟨hw _ (List.mem_of_getElem? (i := 3) rfl), hw _ (List.mem_of_getElem? (i := 9) rfl)⟩)
  obtain ⟨w_FOLDED, _, _, _, ev_FOLDED, -⟩ := Cond.exactly_spec (Cond.before_iff.mpr nr2)
  have E_FOLDED := Exa.start ev_FOLDED nr2
  have S_FOLDED := Sta.start ev_FOLDED (Or.inr ⟨hw _ (List.mem_of_getElem? (i := 3) rfl), hw _ (List.mem_of_getElem? (i := 11) rfl)⟩)
  obtain ⟨n, o, h1, h2, h3, _, L, rfl, ⟨rfl, N⟩, hq⟩ := rm0 l s _ hw tables_1 i0 w_AS_WRITTEN w_CASE_FOLDED w_DIACRITICS_REMOVED w_FOLDED s.heap s.heap.size (Nat.le_refl _) S_AS_WRITTEN S_CASE_FOLDED S_DIACRITICS_REMOVED S_FOLDED E_AS_WRITTEN E_CASE_FOLDED E_DIACRITICS_REMOVED E_FOLDED p e ha hc hk s m _ below hf ((Spec.applies_iff_loose hf).mp happ).1 ⟨rfl, State.Warmed39.refl s, rfl⟩ trivial
  refine ⟨n, _, h1, h2, h3, hpost _ _ _ _ _ _ ⟨Cond.after_iff.mpr rfl, Cond.after_iff.mpr (eq_i res_at (Term.int_eval (1)) rfl), trivial⟩ ⟨hq.1, hq.2.1, (hq.2.2.sift fun y hy => Or.inr (N y hy)).mono (by decide) (by decide)⟩⟩
theorem main_1_1 : Claimed_1_1 := comes_1 fun _ _ _ _ _ _ h hF => ⟨h.1, hF⟩
theorem main_1_2 : Claimed_1_2 := comes_1 fun _ _ _ _ _ _ h hF => ⟨h.2.1, hF⟩
end Jvm.Pilot.@@N@@
namespace Jvm.Pilot.@@N@@
open Jvm Jvm.ClassFile Sem Op Lib Jvm.Free Jvm.Stand Jvm.Pilot.@@N@@.Jvm.D
/-! MADE BY PROGRAM (witnessworld.py) out of the Statement's table words and the real class files: 11 classes; the members and pool entries that the words name. The judged class is class 1, her method 1. -/
namespace start1
open Jvm.ClassFile
def u (s : String) : CpInfo := .utf8 (stringToUtf16 s)
/-- a pool by its gaps: so many unusable entries, then the entry; so many at the end -/
def gap : Nat → List CpInfo → List CpInfo
  | 0, r => r
  | n + 1, r => .unusable :: gap n r
def poolList (es : List (Nat × CpInfo)) (last : Nat) : List CpInfo := es.foldr (fun e r => gap e.1 (e.2 :: r)) (gap last [])
def pool (es : List (Nat × CpInfo)) (last : Nat) : Array CpInfo := ⟨poolList es last⟩
def fileOf (pool : Array CpInfo) (this : Nat) (attrs : Array Attribute := #[]) (ms : Array MethodInfo := #[]) (fl : Nat := 33) (sup : Nat := 0) (ifs : Array Nat := #[]) (fds : Array FieldInfo := #[]) : ClassFile where
  minorVersion := 0
  majorVersion := 65
  constantPool := pool
  accessFlags := fl
  thisClass := this
  superClass := sup
  interfaces := ifs
  fields := fds
  methods := ms
  attributes := attrs
def plain (name : String) (sup : Option ClassId) : Class where
  name := name
  kind := .ordinary
  loader := none
  accessFlags := 33
  super := sup
  interfaces := #[]
  cf := none
  fields := #[]
  methods := #[]
  instanceTypes := #[]
  staticTypes := #[]
  resolved := #[]
  callSites := []
  init := .initialized
  statics := none
  mirror := none

def pool0 : Array CpInfo := pool [(5, u "<init>"), (0, u "()V"), (1, .class_ 10), (1, u "java/lang/Object")] 113

def k0m0 : Method := { name := "<init>", desc := "()V", sig := { parameters := [], returnType := none }, accessFlags := 1, code := none }
/-- java/lang/Object -/
def k0 : Class := { plain "java/lang/Object" none with
  accessFlags := 33
  interfaces := #[]
  cf := some (fileOf pool0 8 #[] #[{ accessFlags := 1, nameIndex := 5, descriptorIndex := 6, attributes := #[] }] 33 0 #[] #[])
  fields := #[]
  methods := #[k0m0]
  instanceTypes := #[]
  staticTypes := #[]
  resolved := Array.replicate 124 none
  statics := none }

def pool1 : Array CpInfo := pool [(2, .class_ 4), (1, u "java/lang/Object"), (0, u "<init>"), (0, u "()V"), (0, .class_ 8), (0, u "com/example/reqwery/reqwery/fulltext/TokenForm"), (0, .fieldref 7 10), (0, .nameAndType 11 12), (0, u "AS_WRITTEN"), (0, u "Lcom/example/reqwery/reqwery/fulltext/TokenForm;"), (0, .fieldref 7 14), (0, .nameAndType 15 12), (0, u "CASE_FOLDED"), (0, .fieldref 7 17), (0, .nameAndType 18 12), (0, u "DIACRITICS_REMOVED"), (0, .fieldref 7 20), (0, .nameAndType 21 12), (0, u "FOLDED"), (0, .methodref 7 23), (0, .nameAndType 24 25), (0, u "of"), (0, u "(ZZ)Lcom/example/reqwery/reqwery/fulltext/TokenForm;"), (0, .class_ 27), (0, u "com/example/reqwery/reqwery/fulltext/TokenFormOfPinLaw"), (2, u "law"), (0, u "(I)Z")] 5

def k1m0 : Method := { name := "<init>", desc := "()V", sig := { parameters := [], returnType := none }, accessFlags := 2, code := none }
def k1c1 : Code := { maxStack := 4, maxLocals := 5, code := code, exceptionTable := #[], attributes := #[] }
def k1m1 : Method := { name := "law", desc := "(I)Z", sig := { parameters := [.int], returnType := some .boolean }, accessFlags := 9, code := some k1c1 }
/-- com/example/reqwery/reqwery/fulltext/TokenFormOfPinLaw -/
def k1 : Class := { plain "com/example/reqwery/reqwery/fulltext/TokenFormOfPinLaw" (some 0) with
  accessFlags := 49
  interfaces := #[]
  cf := some (fileOf pool1 26 #[] #[{ accessFlags := 2, nameIndex := 5, descriptorIndex := 6, attributes := #[] }, { accessFlags := 9, nameIndex := 30, descriptorIndex := 31, attributes := #[] }] 49 2 #[] #[])
  fields := #[]
  methods := #[k1m0, k1m1]
  instanceTypes := #[]
  staticTypes := #[]
  resolved := Array.replicate 37 none
  statics := none }

def pool2 : Array CpInfo := pool [(1, .class_ 2), (0, u "java/lang/constant/Constable"), (0, .class_ 4), (0, u "java/lang/Object")] 6

/-- java/lang/constant/Constable -/
def k2 : Class := { plain "java/lang/constant/Constable" (some 0) with
  accessFlags := 1537
  interfaces := #[]
  cf := some (fileOf pool2 1 #[] #[] 1537 3 #[] #[])
  fields := #[]
  methods := #[]
  instanceTypes := #[]
  staticTypes := #[]
  resolved := Array.replicate 11 none
  statics := none }

def pool3 : Array CpInfo := pool [(1, .class_ 2), (0, u "java/lang/Comparable"), (0, .class_ 4), (0, u "java/lang/Object")] 7

/-- java/lang/Comparable -/
def k3 : Class := { plain "java/lang/Comparable" (some 0) with
  accessFlags := 1537
  interfaces := #[]
  cf := some (fileOf pool3 1 #[] #[] 1537 3 #[] #[])
  fields := #[]
  methods := #[]
  instanceTypes := #[]
  staticTypes := #[]
  resolved := Array.replicate 12 none
  statics := none }

def pool4 : Array CpInfo := pool [(1, .class_ 2), (0, u "java/io/Serializable"), (0, .class_ 4), (0, u "java/lang/Object")] 2

/-- java/io/Serializable -/
def k4 : Class := { plain "java/io/Serializable" (some 0) with
  accessFlags := 1537
  interfaces := #[]
  cf := some (fileOf pool4 1 #[] #[] 1537 3 #[] #[])
  fields := #[]
  methods := #[]
  instanceTypes := #[]
  staticTypes := #[]
  resolved := Array.replicate 7 none
  statics := none }

def pool5 : Array CpInfo := pool [(2, .class_ 4), (1, u "java/lang/Enum"), (0, u "name"), (0, u "Ljava/lang/String;"), (2, u "ordinal"), (0, u "I"), (1, .class_ 14), (1, u "java/lang/Object"), (4, u "hash"), (86, .class_ 108), (1, u "java/lang/Enum$EnumDesc"), (2, .class_ 112), (0, u "java/lang/constant/Constable"), (0, .class_ 114), (0, u "java/lang/Comparable"), (0, .class_ 116), (0, u "java/io/Serializable")] 87

/-- java/lang/Enum -/
def k5 : Class := { plain "java/lang/Enum" (some 0) with
  accessFlags := 1057
  interfaces := #[2, 3, 4]
  cf := some (fileOf pool5 2 #[.nestMembers #[106]] #[] 1057 12 #[111, 113, 115] #[{ accessFlags := 18, nameIndex := 5, descriptorIndex := 6, attributes := #[] }, { accessFlags := 18, nameIndex := 9, descriptorIndex := 10, attributes := #[] }, { accessFlags := 2, nameIndex := 19, descriptorIndex := 10, attributes := #[] }])
  fields := #[{ name := "name", type := (.object "java/lang/String"), accessFlags := 18, slot := 0, constantValue := 0 }, { name := "ordinal", type := .int, accessFlags := 18, slot := 1, constantValue := 0 }, { name := "hash", type := .int, accessFlags := 2, slot := 2, constantValue := 0 }]
  methods := #[]
  instanceTypes := #[(.object "java/lang/String"), .int, .int]
  staticTypes := #[]
  resolved := Array.replicate 204 none
  statics := none }

def pool6 : Array CpInfo := pool [(1, .class_ 2), (0, u "com/example/reqwery/reqwery/fulltext/TokenForm"), (0, .fieldref 1 4), (0, .nameAndType 5 6), (0, u "AS_WRITTEN"), (0, u "Lcom/example/reqwery/reqwery/fulltext/TokenForm;"), (0, .fieldref 1 8), (0, .nameAndType 9 6), (0, u "CASE_FOLDED"), (0, .fieldref 1 11), (0, .nameAndType 12 6), (0, u "DIACRITICS_REMOVED"), (0, .fieldref 1 14), (0, .nameAndType 15 6), (0, u "FOLDED"), (2, u "$VALUES"), (0, u "[Lcom/example/reqwery/reqwery/fulltext/TokenForm;"), (6, .class_ 28), (1, u "java/lang/Enum"), (8, u "foldsCase"), (0, u "Z"), (2, u "removesDiacritics"), (117, u "of"), (0, u "(ZZ)Lcom/example/reqwery/reqwery/fulltext/TokenForm;")] 33

def k6c0 : Code := { maxStack := 1, maxLocals := 2, code := prog_155_method_4_code, exceptionTable := #[], attributes := #[] }
def k6m0 : Method := { name := "of", desc := "(ZZ)Lcom/example/reqwery/reqwery/fulltext/TokenForm;", sig := { parameters := [.boolean, .boolean], returnType := some (.object "com/example/reqwery/reqwery/fulltext/TokenForm") }, accessFlags := 8, code := some k6c0 }
/-- com/example/reqwery/reqwery/fulltext/TokenForm -/
def k6 : Class := { plain "com/example/reqwery/reqwery/fulltext/TokenForm" (some 5) with
  accessFlags := 16432
  interfaces := #[]
  cf := some (fileOf pool6 1 #[] #[{ accessFlags := 8, nameIndex := 159, descriptorIndex := 160, attributes := #[] }] 16432 26 #[] #[{ accessFlags := 16409, nameIndex := 5, descriptorIndex := 6, attributes := #[] }, { accessFlags := 16409, nameIndex := 9, descriptorIndex := 6, attributes := #[] }, { accessFlags := 16409, nameIndex := 12, descriptorIndex := 6, attributes := #[] }, { accessFlags := 16409, nameIndex := 15, descriptorIndex := 6, attributes := #[] }, { accessFlags := 18, nameIndex := 37, descriptorIndex := 38, attributes := #[] }, { accessFlags := 18, nameIndex := 41, descriptorIndex := 38, attributes := #[] }, { accessFlags := 4122, nameIndex := 18, descriptorIndex := 19, attributes := #[] }])
  fields := #[{ name := "AS_WRITTEN", type := (.object "com/example/reqwery/reqwery/fulltext/TokenForm"), accessFlags := 16409, slot := 0, constantValue := 0 }, { name := "CASE_FOLDED", type := (.object "com/example/reqwery/reqwery/fulltext/TokenForm"), accessFlags := 16409, slot := 1, constantValue := 0 }, { name := "DIACRITICS_REMOVED", type := (.object "com/example/reqwery/reqwery/fulltext/TokenForm"), accessFlags := 16409, slot := 2, constantValue := 0 }, { name := "FOLDED", type := (.object "com/example/reqwery/reqwery/fulltext/TokenForm"), accessFlags := 16409, slot := 3, constantValue := 0 }, { name := "foldsCase", type := .boolean, accessFlags := 18, slot := 3, constantValue := 0 }, { name := "removesDiacritics", type := .boolean, accessFlags := 18, slot := 4, constantValue := 0 }, { name := "$VALUES", type := (.array (.object "com/example/reqwery/reqwery/fulltext/TokenForm")), accessFlags := 4122, slot := 4, constantValue := 0 }]
  methods := #[k6m0]
  instanceTypes := #[(.object "java/lang/String"), .int, .int, .boolean, .boolean]
  staticTypes := #[(.object "com/example/reqwery/reqwery/fulltext/TokenForm"), (.object "com/example/reqwery/reqwery/fulltext/TokenForm"), (.object "com/example/reqwery/reqwery/fulltext/TokenForm"), (.object "com/example/reqwery/reqwery/fulltext/TokenForm"), (.array (.object "com/example/reqwery/reqwery/fulltext/TokenForm"))]
  resolved := Array.replicate 194 none
  statics := some 0 }

def pool7 : Array CpInfo := pool [(1, u "java/lang/Cloneable"), (0, .class_ 1), (0, u "java/lang/Object"), (0, .class_ 3)] 3

/-- java/lang/Cloneable -/
def k7 : Class := { plain "java/lang/Cloneable" (some 0) with
  accessFlags := 1537
  interfaces := #[]
  cf := some (fileOf pool7 2 #[] #[] 1537 4 #[] #[])
  fields := #[]
  methods := #[]
  instanceTypes := #[]
  staticTypes := #[]
  resolved := Array.replicate 8 none
  statics := none }

/-- the primitive byte -/
def k8 : Class := { plain "byte" none with kind := .primitive 'B', accessFlags := 0x411 }
/-- [B -/
def k9 : Class := { plain "[B" (some 0) with kind := .array 8 .byte, interfaces := #[7, 4], accessFlags := 1041 }

/-- [Lcom/example/reqwery/reqwery/fulltext/TokenForm; -/
def k10 : Class := { plain "[Lcom/example/reqwery/reqwery/fulltext/TokenForm;" (some 0) with kind := .array 6 (.object "com/example/reqwery/reqwery/fulltext/TokenForm"), interfaces := #[7, 4], accessFlags := 1041 }

def heap : Heap := #[{ cls := 6, slots := #[.ref 1, .ref 2, .ref 3, .ref 4, .null], vm := .statics 6 },
  { cls := 6, slots := #[.null, .int 0, .int 0, .int 0, .int 0], vm := .none },
  { cls := 6, slots := #[.null, .int 0, .int 0, .int 0, .int 0], vm := .none },
  { cls := 6, slots := #[.null, .int 0, .int 0, .int 0, .int 0], vm := .none },
  { cls := 6, slots := #[.null, .int 0, .int 0, .int 0, .int 0], vm := .none }]
def classes : Array Class := #[k0, k1, k2, k3, k4, k5, k6, k7, k8, k9, k10]
def interned : List (Array UInt16 × Addr) := []
def slotsUsed : Nat := 25
def theMethod : MethodId := ⟨1, 1⟩
def args0 : Array Value := #[.int 2]
def aboutOver (below : List Frame) : State where
  vm := { classes := classes, interned := interned.toArray }
  heap := heap
  slotsUsed := slotsUsed
  threads := #[{ frames := .invoking theMethod args0 :: below }]
def below0 : List Frame := [.native { method := ⟨0, 0⟩, args := #[] }]
def about1 : State := aboutOver below0
def p0 : Program := .bare "" "" ""
def e0 : Env := launch0.env 0 0 0
theorem w_frames : about1.frames = Frame.invoking theMethod args0 :: below0 := rfl
set_option maxRecDepth 65536 in
theorem w_args : argsFit about1.vm theMethod args0 = true := by decide +kernel
set_option maxRecDepth 65536 in
theorem w_heap : heapFits about1 = true := by decide +kernel
set_option maxRecDepth 65536 in
theorem w_runnable : about1.curStatus? = some .runnable := by decide +kernel
set_option maxRecDepth 65536 in
theorem w_alone : about1.alone = true := by decide +kernel
set_option maxRecDepth 65536 in
theorem w_named : about1.methodNamed? x = some theMethod := by decide +kernel
set_option maxRecDepth 65536 in
theorem w_hears : about1.hears theMethod below0 = true := by decide +kernel
set_option maxRecDepth 65536 in
theorem w_ripe : about1.ripe theMethod args0 below0 = true := by decide +kernel
theorem w_running : about1.status = .running := rfl
set_option maxRecDepth 65536 in
theorem w_room : about1.hasRoom e0.platform room_1 = true :=
  launch0.hasRoom_least _ room_1 (by decide +kernel) (by decide +kernel) (by decide +kernel) (by decide +kernel) (by decide +kernel) (by decide +kernel)
theorem allAtoms_all (ts : List Jvm.Cond) (a : Array Jvm.Value) (st : Jvm.State) : (allAtoms ts).before a st = ts.all (fun c => c.before a st) := by
  induction ts with
  | nil => rfl
  | cons c t ih =>
    show (Jvm.Cond.and c (allAtoms t)).before a st = _
    rw [Jvm.Cond.before_and, ih, List.all_cons]
def words1 : List Jvm.Cond := Jvm.Cond.code x code maxLocals ret :: tables_1
/-- a 'code' word, met by the world's own term for the bytes: nothing is compared byte by byte -/
theorem code_word {y : MethodName} {bytes : ByteArray} {mx : Nat} {rt : Option FieldType} {a : Array Value} {s : State} {m : MethodId} {meth : Method} {c : Code} (h1 : s.methodNamed? y = some m) (h2 : s.vm.method? m = some meth) (h3 : meth.code = some c) (h4 : c.code = bytes)
    (h5 : (c.maxLocals == mx && c.exceptionTable.isEmpty && decide (c.maxStack ≤ mostOperands) && decide (meth.sig.returnType = rt) && !meth.locks && decide (parseMethodDescriptor y.desc = some meth.sig)) = true) : (Jvm.Cond.code y bytes mx rt).before a s = true := by
  simp only [Bool.and_eq_true, beq_iff_eq, Bool.not_eq_true', decide_eq_true_eq] at h5
  obtain ⟨⟨⟨⟨⟨g1, g2⟩, g3⟩, g4⟩, g5⟩, g6⟩ := h5
  simp [Cond.before, Cond.holds, Cond.value, h1, h2, h3, h4, g1, g2, g3, g4, g5, g6]
def isCode : Jvm.Cond → Bool
  | .code _ _ _ _ => true
  | _ => false
theorem all_split {L : List Jvm.Cond} {P : Jvm.Cond → Bool} (h1 : L.all (fun c => isCode c || P c) = true) (h2 : ∀ c ∈ L.filter isCode, P c = true) : L.all P = true := by
  refine List.all_eq_true.mpr fun c hc => ?_
  have h := List.all_eq_true.mp h1 c hc
  rcases Bool.eq_false_or_eq_true (isCode c) with hi | hi
  · exact h2 c (List.mem_filter.mpr ⟨hc, hi⟩)
  · simpa [hi] using h
set_option maxRecDepth 65536 in
theorem w_c0 : (Jvm.Cond.code x code maxLocals ret).before args0 about1 = true := code_word (m := ⟨1, 1⟩) (meth := k1m1) (c := k1c1) (by decide +kernel) rfl rfl rfl (by decide +kernel)
set_option maxRecDepth 65536 in
theorem w_c1 : (Jvm.Cond.code ({ cls := "com/example/reqwery/reqwery/fulltext/TokenForm", name := "of", desc := "(ZZ)Lcom/example/reqwery/reqwery/fulltext/TokenForm;" } : Jvm.MethodName) prog_155_method_4_code (2 : Nat) (Option.some (Jvm.ClassFile.FieldType.object "com/example/reqwery/reqwery/fulltext/TokenForm"))).before args0 about1 = true := code_word (m := ⟨6, 0⟩) (meth := k6m0) (c := k6c0) (by decide +kernel) rfl rfl rfl (by decide +kernel)
def codes1 : List Jvm.Cond := [Jvm.Cond.code x code maxLocals ret, Jvm.Cond.code ({ cls := "com/example/reqwery/reqwery/fulltext/TokenForm", name := "of", desc := "(ZZ)Lcom/example/reqwery/reqwery/fulltext/TokenForm;" } : Jvm.MethodName) prog_155_method_4_code (2 : Nat) (Option.some (Jvm.ClassFile.FieldType.object "com/example/reqwery/reqwery/fulltext/TokenForm"))]
set_option maxRecDepth 65536 in
theorem codes_eq : words1.filter isCode = codes1 := rfl
theorem w_codes : ∀ c ∈ words1.filter isCode, c.before args0 about1 = true := by
  rw [codes_eq]
  intro c hc
  simp only [codes1, List.mem_cons, List.not_mem_nil, or_false] at hc
  rcases hc with rfl | rfl
  · exact w_c0
  · exact w_c1
set_option maxRecDepth 65536 in
theorem w_t1 : words1.all (fun c => isCode c || c.before args0 about1) = true := by decide +kernel
theorem w_tables : (allAtoms (Jvm.Cond.code x code maxLocals ret :: tables_1)).before args0 about1 = true := by
  rw [allAtoms_all]
  show words1.all (fun c => c.before args0 about1) = true
  refine all_split ?_ w_codes
  rw [w_t1]
set_option maxRecDepth 65536 in
theorem w_case : (Jvm.Cond.and given_1 narrow_1).before args0 about1 = true := by decide +kernel
theorem w_applies : (headSpec (Jvm.Cond.code x code maxLocals ret :: tables_1) room_1).applies x e0.platform about1 = true :=
  (Spec.applies_iff w_frames).mpr ⟨w_running, w_runnable, w_alone, w_named, w_hears, w_ripe, w_room, w_tables⟩
theorem atStart : AtStart classFile x code maxLocals ret World_1 tables_1 room_1 Calls_1 rest_1 Pre_1 launch0 p0 e0 about1 theMethod args0 below0 :=
  ⟨lists_1, trivial, launch0.admits_env _ _ _, launch0.least_env, fairChoices_fair.cas, fairChoices_fair.clock, w_frames, w_args, w_heap, w_applies, trivial, trivial, w_case⟩
end start1
theorem witness_1 : WitnessClaimed_1 := ⟨start1.p0, start1.e0, start1.about1, start1.theMethod, start1.args0, start1.below0, start1.atStart⟩
end Jvm.Pilot.@@N@@
